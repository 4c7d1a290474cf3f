/-
  THE WALKS OF hex4 AND ZZHex4. By an AI agent.
-/
import Derived.Test.Qxb6600601aModsRows
import Derived.Test.Qxb6600601aModsHex
import Derived.WalkKit
import Derived.ProofKit
import Derived.OpenShut
import Derived.ShutString
import Derived.ChangeOld
import Derived.Below
import Derived.Laws.IdiomStrings
import Derived.Lib.Strings
namespace Go.Proofs.Qxb6600601aMods.HexWalks
open Go.ChangeShapes Go.WideShapes Go.ChangeAt Go.RowKit
open Go.Proofs.Qxb6600601aMods.Hex

theorem hide {p : Prop} (h : p) : Hid p := h
theorem ret_int {k : IntKind} {a b : Int} (h : a = b) : Ending.returned (.int k a) = .returned (.int k b) := by rw [h]

/-- '[]byte(b[2:6])': the world behind is a variable. -/
theorem conv4 (s : ByteArray) (w : World) (h : 6 ≤ s.size) :
    ∃ C W1, (convert 9 27 (.string (s.extract 2 6))).run Trym.prog w = .ok (.slice (some ⟨w.heap.size, 0, none⟩) 4 C) W1 ∧
      (∀ i, i < 4 → W1.cell? ⟨w.heap.size, i, none⟩ = some (.int .u8 (at0 s (2 + i) : Nat))) ∧ Below w.heap.size w W1 := by
  have hr := run_bytes_of_string (P := Trym.prog) w 9 27 5 (s.extract 2 6) Trym.underlying9 Trym.underlying27 Trym.underlying5
  have hsz : (s.extract 2 6).size = 4 := by simp; omega
  rw [hsz] at hr
  refine ⟨_, _, hr, fun i hi => ?_, ?_⟩
  · rw [show w.heap.size = w.drew.heap.size from rfl, World.cell?_alloc_mark]
    unfold bytesRow
    have hi' : i < ((s.extract 2 6).data.map (fun b => Value.int .u8 b.toNat)).size := by
      simp only [Array.size_map]
      exact Nat.lt_of_lt_of_eq hi hsz.symm
    rw [Array.getElem?_append_left hi', Array.getElem?_map, ← Array.getElem?_toList, Lib.extract_data, List.getElem?_take_of_lt (by omega), List.getElem?_drop]
    unfold at0
    have h2 : 2 + i < s.data.toList.length := by
      have : s.data.toList.length = s.size := by simp
      omega
    rw [List.getD_eq_getElem?_getD, List.getElem?_eq_getElem h2]
    rfl
  · exact ((Below.refl w.heap.size w).drew).alloc (Nat.le_refl _) _

theorem round_rel (s : ByteArray) (k c : Nat) (x : Int) (hg : good s k) (hk : k < 4) (hc : c = at0 s (2 + k)) (hx : x = (dg c : Nat)) (hd : dg c < 16) :
    bits .or .i32 (wrap32 ((rv s k : Nat) * 16)) x = ((rv s (k + 1) : Nat) : Int) := by
  rw [← IntWalk.i32_left, hx, round_or s k (dg c) hg hk hd, hc]
  rfl

set_option maxHeartbeats 400000 in
theorem hex21_head (s : ByteArray) (w : World) (hm : s.size ≤ 9223372036854775807) (h : head s) :
    Calls Trym.prog 21 #[.string s] w fun e w' => ∃ r, e = .returned (.int .i32 r) ∧ ((good s 4 ∧ r = (rv s 4 : Nat)) ∨ (¬ good s 4 ∧ r = -1)) ∧ Below w.heap.size w w' := by
  obtain ⟨h6, h0, h1⟩ := h
  obtain ⟨C, W1, hcv, hcells, hbel⟩ := conv4 s w h6
  have g0 : s[0].toNat = 92 := by rw [at0_get, h0]
  have g1 : s[1].toNat = 117 := by rw [at0_get, h1]
  have HB := hide hbel
  have HC := hide hcells
  clear h0 h1 hbel hcells
  go_enter Trym.func21, Trym.ntmps21
  go_wp2
  go_loop [3, 23] (fun r i => ∃ k : Nat, k ≤ 4 ∧ i = .int .i64 k ∧ r = .int .i32 (rv s k : Nat) ∧ good s k) (fun _ i => 4 - (intOf i).toNat)
  case atStart => exact ⟨0, Nat.zero_le _, rfl, rfl, fun i hi => by omega⟩
  case round =>
    obtain ⟨k, hk, rfl, rfl, hg⟩ := hrel
    have HG := hide hg
    by_cases hlt : k < 4
    · obtain ⟨c, hc⟩ : ∃ c, c = at0 s (2 + k) := ⟨_, rfl⟩
      have hck : W1.cell? ⟨w.heap.size, k, none⟩ = some (.int .u8 (c : Nat)) := by rw [hc]; exact HC.out k hlt
      have hcb : c < 256 := by rw [hc]; exact at0_lt _ _
      have HCe := hide hc
      clear hc hg
      by_cases c1 : 48 ≤ c
      · by_cases c2 : c ≤ 57
        · have hd : dg c = c - 48 := by unfold dg; rw [if_pos ⟨c1, c2⟩]
          have HD := hide (show dg c < 16 by omega)
          have HX := hide (show (c : Int) - 48 = ((dg c : Nat) : Int) by omega)
          clear hd
          go_wp2
          go_round
          case rel => exact ⟨k + 1, by omega, by go_num, by rw [round_rel s k c _ HG.out hlt HCe.out HX.out HD.out], good_succ HG.out (by rw [← HCe.out]; exact HD.out)⟩
          case measure => simp [intOf]; omega
        · by_cases c3 : 97 ≤ c
          · by_cases c4 : c ≤ 102
            · have hd : dg c = c - 87 := by unfold dg; rw [if_neg (by omega), if_pos ⟨c3, c4⟩]
              have HD := hide (show dg c < 16 by omega)
              have HX := hide (show (c : Int) - 87 = ((dg c : Nat) : Int) by omega)
              clear hd
              go_wp2
              go_round
              case rel => exact ⟨k + 1, by omega, by go_num, by rw [round_rel s k c _ HG.out hlt HCe.out HX.out HD.out], good_succ HG.out (by rw [← HCe.out]; exact HD.out)⟩
              case measure => simp [intOf]; omega
            · have hd : dg c = 16 := by unfold dg; rw [if_neg (by omega), if_neg (by omega), if_neg (by omega)]
              have HN : Hid (¬ good s 4) := fun hh => by have := hh k hlt; rw [← HCe.out] at this; omega
              clear hd
              go_wp2
              go_ret
              exact ⟨_, rfl, .inr ⟨HN.out, rfl⟩, HB.out⟩
          · by_cases c5 : 65 ≤ c
            · by_cases c6 : c ≤ 70
              · have hd : dg c = c - 55 := by unfold dg; rw [if_neg (by omega), if_neg (by omega), if_pos ⟨c5, c6⟩]
                have HD := hide (show dg c < 16 by omega)
                have HX := hide (show (c : Int) - 55 = ((dg c : Nat) : Int) by omega)
                clear hd
                go_wp2
                go_round
                case rel => exact ⟨k + 1, by omega, by go_num, by rw [round_rel s k c _ HG.out hlt HCe.out HX.out HD.out], good_succ HG.out (by rw [← HCe.out]; exact HD.out)⟩
                case measure => simp [intOf]; omega
              · have hd : dg c = 16 := by unfold dg; rw [if_neg (by omega), if_neg (by omega), if_neg (by omega)]
                have HN : Hid (¬ good s 4) := fun hh => by have := hh k hlt; rw [← HCe.out] at this; omega
                clear hd
                go_wp2
                go_ret
                exact ⟨_, rfl, .inr ⟨HN.out, rfl⟩, HB.out⟩
            · have hd : dg c = 16 := by unfold dg; rw [if_neg (by omega), if_neg (by omega), if_neg (by omega)]
              have HN : Hid (¬ good s 4) := fun hh => by have := hh k hlt; rw [← HCe.out] at this; omega
              clear hd
              go_wp2
              go_ret
              exact ⟨_, rfl, .inr ⟨HN.out, rfl⟩, HB.out⟩
      · have hd : dg c = 16 := by unfold dg; rw [if_neg (by omega), if_neg (by omega), if_neg (by omega)]
        have HN : Hid (¬ good s 4) := fun hh => by have := hh k hlt; rw [← HCe.out] at this; omega
        clear hd
        go_wp2
        go_ret
        exact ⟨_, rfl, .inr ⟨HN.out, rfl⟩, HB.out⟩
    · obtain rfl : k = 4 := by omega
      clear hg
      go_wp2
      go_ret
      exact ⟨_, rfl, .inl ⟨HG.out, rfl⟩, HB.out⟩

/-- Where s does not begin with '\\u' and four bytes more: -1. -/
theorem hex21_bad (s : ByteArray) (w : World) (hm : s.size ≤ 9223372036854775807) (h : ¬ head s) :
    Calls Trym.prog 21 #[.string s] w fun e w' => e = .returned (.int .i32 (-1)) ∧ w' = w := by
  by_cases h6 : s.size < 6
  · clear h
    go_enter Trym.func21, Trym.ntmps21
    go_wp2
    go_ret
    exact ⟨rfl, rfl⟩
  · have h0s : 0 < s.size := by omega
    have h1s : 1 < s.size := by omega
    by_cases h0 : s[0].toNat = 92
    · have h1 : ((s[1].toNat : Int) != 117) = true := by
        rw [bne_iff_ne]
        intro g
        exact h ⟨by omega, by rw [← at0_get s 0 h0s, h0], by rw [← at0_get s 1 h1s]; omega⟩
      clear h
      go_enter Trym.func21, Trym.ntmps21
      go_wp2
      go_ret
      exact ⟨rfl, rfl⟩
    · have h1 : ((s[0].toNat : Int) != 92) = true := by
        rw [bne_iff_ne]
        omega
      clear h h0
      go_enter Trym.func21, Trym.ntmps21
      go_wp2
      go_ret
      exact ⟨rfl, rfl⟩

/-- What hex4 answers. -/
def Answers (s : ByteArray) (r : Int) : Prop := (head s ∧ good s 4 ∧ r = (rv s 4 : Nat)) ∨ (¬ (head s ∧ good s 4) ∧ r = -1)

theorem hex21 (s : ByteArray) (w : World) (hm : s.size ≤ 9223372036854775807) :
    Calls Trym.prog 21 #[.string s] w fun e w' => ∃ r, e = .returned (.int .i32 r) ∧ Answers s r ∧ Below w.heap.size w w' := by
  by_cases h : head s
  · refine (hex21_head s w hm h).mono ?_
    rintro e w' ⟨r, rfl, hr, hb⟩
    refine ⟨r, rfl, ?_, hb⟩
    rcases hr with ⟨hg, hr⟩ | ⟨hg, hr⟩
    · exact .inl ⟨h, hg, hr⟩
    · exact .inr ⟨fun x => hg x.2, hr⟩
  · refine (hex21_bad s w hm h).mono ?_
    rintro e w' ⟨rfl, rfl⟩
    exact ⟨-1, rfl, .inr ⟨fun x => h x.1, rfl⟩, Below.refl _ _⟩

theorem hex9 (s : ByteArray) (w : World) (hm : s.size ≤ 9223372036854775807) :
    Calls Trym.prog 9 #[.string s] w fun e w' => ∃ r, e = .returned (.int .i32 r) ∧ Answers s r ∧ Below w.heap.size w w' := by
  go_enter Trym.func9, Trym.ntmps9
  go_wp2_with fail
  refine (hex21 s w hm).mono ?_
  rintro e w' ⟨r, rfl, hr, hb⟩
  have HR := hide hr
  have HB := hide hb
  clear hr hb
  go_wp2
  go_ret
  exact ⟨r, rfl, HR.out, HB.out⟩

end Go.Proofs.Qxb6600601aMods.HexWalks
