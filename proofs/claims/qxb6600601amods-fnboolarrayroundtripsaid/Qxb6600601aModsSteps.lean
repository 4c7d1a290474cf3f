/-
  WHAT more AND Bool DO AT EACH ELEMENT OF THE TEXT. By an AI agent.
-/
import Derived.Test.Qxb6600601aModsReadWalks2
import Derived.Test.Qxb6600601aModsText
namespace Go.Proofs.Qxb6600601aMods.Steps
open Go.ChangeShapes Go.WideShapes Go.ChangeAt Go.RowKit
open Go.Proofs.Qxb6600601aMods.Hex Go.Proofs.Qxb6600601aMods.HexWalks Go.Proofs.Qxb6600601aMods.ReadWalks Go.Proofs.Qxb6600601aMods.ReadWalks2 Go.Proofs.Qxb6600601aMods.Text

/-- The place behind 'more', ahead of element k. -/
def mP (L : List UInt8) (V : Nat → Bool) (k : Nat) : Nat := if k = 0 then (cont L V k).length else (cont L V k).length + 1

theorem cont_lt (L : List UInt8) (V : Nat → Bool) (n k : Nat) (hk : k ≤ n) : (cont L V k).length < (doc L V n).size := by
  obtain ⟨t, ht⟩ := cont_prefix L V k (n - k)
  rw [show k + (n - k) = n by omega] at ht
  rw [doc_size, ht, List.length_append]
  omega

theorem item_first (L : List UInt8) (V : Nat → Bool) (n k : Nat) (hk : k < n) : at0 (doc L V n) (iP L V k) = if V k then 116 else 102 := by
  obtain ⟨a, t, h, hl, _⟩ := doc_item L V n k hk
  cases hb : V k
  · rw [hb] at h
    have := at_mid (doc L V n) a (item false) t h 0 (by decide)
    rw [Nat.add_zero, hl] at this
    rw [this]
    rfl
  · rw [hb] at h
    have := at_mid (doc L V n) a (item true) t h 0 (by decide)
    rw [Nat.add_zero, hl] at this
    rw [this]
    rfl

theorem more_step (R : Nat) (L : List UInt8) (V : Nat → Bool) (n k : Nat) (w : World) (hD : (doc L V n).size ≤ 1048576) (hL : ∀ x ∈ L, spc x.toNat) (hk : k < n) (hr : Rd w R (doc L V n) (eP L V k) 1) :
    Calls Trym.prog 15 #[.pointer (some ⟨R, 0, none⟩), .bool (decide (k = 0)), .int .u8 93] w fun e w' => e = .returned (.bool true) ∧ Rd w' R (doc L V n) (mP L V k) 1 ∧ Below R w w' := by
  refine zzmore ?_
  have hle := eP_le L V k
  by_cases h0 : k = 0
  · rw [decide_eq_true h0]
    have hf := item_first L V n k hk
    have hi : iP L V k = (cont L V k).length := by unfold iP; rw [if_pos h0]
    have hm : mP L V k = (cont L V k).length := by unfold mP; rw [if_pos h0]
    rw [hi] at hf
    rw [hm]
    refine more_first R (doc L V n) (eP L V k) (cont L V k).length w hD hr (by omega) (cont_lt L V n k (by omega)) (doc_ws L V n k (by omega) hL) ?_ ?_
    · rw [hf]; unfold sp; split <;> omega
    · rw [hf]; split <;> omega
  · rw [decide_eq_false h0]
    have hm : mP L V k = (cont L V k).length + 1 := by unfold mP; rw [if_neg h0]
    rw [hm]
    exact more_comma R (doc L V n) (eP L V k) (cont L V k).length w hD hr (by omega) (cont_lt L V n k (by omega)) (doc_ws L V n k (by omega) hL) (doc_comma L V n k hk h0)

theorem more_last (R : Nat) (L : List UInt8) (V : Nat → Bool) (n : Nat) (first : Bool) (w : World) (hD : (doc L V n).size ≤ 1048576) (hL : ∀ x ∈ L, spc x.toNat) (hr : Rd w R (doc L V n) (eP L V n) 1) :
    Calls Trym.prog 15 #[.pointer (some ⟨R, 0, none⟩), .bool first, .int .u8 93] w fun e w' => e = .returned (.bool false) ∧ Rd w' R (doc L V n) (doc L V n).size 0 ∧ Below R w w' := by
  have hle := eP_le L V n
  rw [doc_size L V n] at hD ⊢
  exact zzmore (more_end R (doc L V n) (eP L V n) (cont L V n).length first w (by rw [doc_size]; omega) hr (by omega) (cont_lt L V n n (by omega)) (doc_ws L V n n (by omega) hL) (doc_end L V n))

theorem bool_step (R : Nat) (L : List UInt8) (V : Nat → Bool) (n k : Nat) (w : World) (hD : (doc L V n).size ≤ 1048576) (hL : ∀ x ∈ L, spc x.toNat) (hk : k < n) (hr : Rd w R (doc L V n) (mP L V k) 1) :
    Calls Trym.prog 14 #[.pointer (some ⟨R, 0, none⟩)] w fun e w' => e = .returned (.bool (V k)) ∧ Rd w' R (doc L V n) (eP L V (k + 1)) 1 ∧ Below R w w' := by
  obtain ⟨a, t, h, hl, ht⟩ := doc_item L V n k hk
  have hf := item_first L V n k hk
  have hws : ∀ i, mP L V k ≤ i → i < iP L V k → sp (at0 (doc L V n) i) := by
    intro i h1 h2
    by_cases h0 : k = 0
    · unfold mP at h1
      unfold iP at h2
      rw [if_pos h0] at h1 h2
      omega
    · unfold mP at h1
      rw [if_neg h0] at h1
      exact doc_ws2 L V n k hk h0 hL i h1 h2
  have hmi : mP L V k ≤ iP L V k := by
    unfold mP iP
    by_cases h0 : k = 0
    · rw [if_pos h0, if_pos h0]; omega
    · rw [if_neg h0, if_neg h0]; omega
  have hs : (doc L V n).data.toList.length = (doc L V n).size := by simp
  rw [eP_succ]
  cases hb : V k
  · rw [hb] at h hf
    have hsz : iP L V k + 5 ≤ (doc L V n).size := by rw [← hs, h]; simp [item]; omega
    exact bool_false R (doc L V n) (mP L V k) (iP L V k) 1 w hD hr hmi hsz hws hf (cut_word (doc L V n) falseW a t (iP L V k) h hl)
  · rw [hb] at h hf
    have hsz : iP L V k + 4 ≤ (doc L V n).size := by rw [← hs, h]; simp [item]; omega
    exact bool_true R (doc L V n) (mP L V k) (iP L V k) 1 w hD hr hmi hsz hws hf (cut_word (doc L V n) trueW a t (iP L V k) h hl)

end Go.Proofs.Qxb6600601aMods.Steps
