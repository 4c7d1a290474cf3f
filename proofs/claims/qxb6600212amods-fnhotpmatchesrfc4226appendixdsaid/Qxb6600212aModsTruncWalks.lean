/-
  THE WALKS OF truncate AND ZZtruncate: each computes 'Trunc.tr'. By an AI agent.
-/
import Derived.Test.Qxb6600212aModsRows
import Derived.Test.Qxb6600212aModsTrunc
import Derived.WalkKit
import Derived.ProofKit
import Derived.OpenShut
import Derived.ShutString
import Derived.ChangeOld
import Derived.Below
namespace Go.Proofs.Qxb6600212aMods.TruncWalks
open Go.ChangeShapes Go.WideShapes Go.ChangeAt Go.RowKit
open Go.Proofs.Qxb6600212aMods.Trunc

theorem ret_int {k : IntKind} {a b : Int} (h : a = b) : Ending.returned (.int k a) = .returned (.int k b) := by rw [h]

/-- A row of bytes at place off of block b. -/
def Row (w : World) (b off len : Nat) (B : Nat → Nat) : Prop :=
  (∀ i, i < len → w.cell? ⟨b, off + i, none⟩ = some (.int .u8 (B i : Nat))) ∧ ∀ i, B i < 256

set_option maxHeartbeats 400000 in
theorem trunc20 (b off len cap n : Nat) (B : Nat → Nat) (w : World) (hl : len ≤ cap) (hm : cap ≤ 1048576) (hn1 : 1 ≤ n) (hn8 : n ≤ 8) (hlen : 15 + n ≤ len)
    (hrow : Row w b off len B) :
    Calls Trym.prog 20 #[.slice (some ⟨b, off, none⟩) len cap, .int .i64 n] w fun e w' => e = .returned (.int .u64 (tr B (B (len - 1) % 16) n : Nat)) ∧ w' = w := by
  obtain ⟨hc, hb⟩ := hrow
  have HB : Hid (∀ i, B i < 256) := hb
  obtain ⟨L, hL⟩ : ∃ L, L = B (len - 1) := ⟨_, rfl⟩
  have hcl : w.cell? ⟨b, off + (len - 1), none⟩ = some (.int .u8 L) := by rw [hL]; exact hc _ (by omega)
  have hLb : L < 256 := by rw [hL]; exact hb _
  rw [← hL]
  clear hL
  obtain ⟨o, ho⟩ : ∃ o, o = L % 16 := ⟨_, rfl⟩
  have hand : bits .and .u8 (L : Int) 15 = (o : Int) := by have := u8_and_nat L 15 hLb (by omega); rw [nat_mask4] at this; rw [ho]; exact this
  have ho16 : o < 16 := by omega
  rw [← ho]
  clear ho
  go_enter Trym.func20, Trym.ntmps20
  go_wp2
  go_loop [6, 24] (fun v i => ∃ k : Nat, k ≤ n ∧ i = .int .i64 k ∧ v = .int .u64 (tv B o k : Nat)) (fun _ i => n - (intOf i).toNat)
  case atStart => exact ⟨0, Nat.zero_le _, rfl, rfl⟩
  case round =>
    obtain ⟨k, hk, rfl, rfl⟩ := hrel
    by_cases hlt : k < n
    · have hck : w.cell? ⟨b, off + o + k, none⟩ = some (.int .u8 (B (o + k))) := by rw [Nat.add_assoc]; exact hc _ (by omega)
      have hbk := hb (o + k)
      go_wp2
      go_round
      case rel => exact ⟨k + 1, by omega, by go_num, by rw [round_or B o k HB.out (by omega)]⟩
      case measure => simp [intOf]; omega
    · go_wp2
      go_ret
      exact ⟨ret_int (end_andNot B o n k HB.out (by omega) hn1 hn8), rfl⟩

theorem trunc9 (b off len cap n : Nat) (B : Nat → Nat) (w : World) (hl : len ≤ cap) (hm : cap ≤ 1048576) (hn1 : 1 ≤ n) (hn8 : n ≤ 8) (hlen : 15 + n ≤ len)
    (hrow : Row w b off len B) :
    Calls Trym.prog 9 #[.slice (some ⟨b, off, none⟩) len cap, .int .i64 n] w fun e w' => e = .returned (.int .u64 (tr B (B (len - 1) % 16) n : Nat)) ∧ w' = w := by
  go_enter Trym.func9, Trym.ntmps9
  go_wp2_with fail
  refine (trunc20 b off len cap n B w hl hm hn1 hn8 hlen hrow).mono ?_
  rintro e w' ⟨rfl, rfl⟩
  go_wp2
  go_ret
  exact ⟨rfl, rfl⟩

end Go.Proofs.Qxb6600212aMods.TruncWalks
