/-
  THE WALK OF wb1Digit: the digit's value, or -1. By an AI agent.
-/
import Derived.Test.Qxb6600601aModsHexWalks
import Derived.Test.Qxb6600601aModsTrip
namespace Go.Proofs.Qxb6600601aMods.DigitWalks
open Go.ChangeShapes Go.WideShapes Go.ChangeAt Go.RowKit
open Go.Proofs.Qxb6600601aMods.Hex Go.Proofs.Qxb6600601aMods.HexWalks Go.Proofs.Qxb6600601aMods.Trip

def loS : ByteArray := ⟨#[48, 49, 50, 51, 52, 53, 54, 55, 56, 57, 97, 98, 99, 100, 101, 102]⟩
def upS : ByteArray := ⟨#[48, 49, 50, 51, 52, 53, 54, 55, 56, 57, 65, 66, 67, 68, 69, 70]⟩

theorem lo_at : ∀ d, d < 16 → at0 loS d = loN d := by decide
theorem up_at : ∀ d, d < 16 → at0 upS d = upN d := by decide

theorem index_fact (H : ByteArray) (n : Nat) (h : n < H.size) (w : World) :
    (Instr.index 9 (.string H) (.int .i64 (n : Int))).run Trym.prog w = .ok (.int .u8 (at0 H n : Nat)) w := by
  rw [← at0_get H n h]
  simp [go_sem, h]

theorem index_lo (d : Nat) (h : d < 16) (w : World) : (Instr.index 9 (.string ⟨#[48, 49, 50, 51, 52, 53, 54, 55, 56, 57, 97, 98, 99, 100, 101, 102]⟩) (.int .i64 (d : Int))).run Trym.prog w = .ok (.int .u8 (loN d : Nat)) w := by
  have := index_fact loS d (by exact h) w
  rw [lo_at d h] at this
  exact this
theorem index_up (d : Nat) (h : d < 16) (w : World) : (Instr.index 9 (.string ⟨#[48, 49, 50, 51, 52, 53, 54, 55, 56, 57, 65, 66, 67, 68, 69, 70]⟩) (.int .i64 (d : Int))).run Trym.prog w = .ok (.int .u8 (upN d : Nat)) w := by
  have := index_fact upS d (by exact h) w
  rw [up_at d h] at this
  exact this

/-- The digit's value, or -1. -/
def dI (c : Nat) : Int := if dg c < 16 then (dg c : Nat) else -1

/-- A byte that is a digit is one of the two tables' at its value. -/
theorem dg_table (c : Nat) (h : dg c < 16) : loN (dg c) = c ∨ upN (dg c) = c := by
  revert h
  unfold dg
  by_cases h1 : 48 ≤ c ∧ c ≤ 57
  · rw [if_pos h1]
    intro _
    left
    unfold loN
    rw [if_pos (by omega)]
    omega
  · rw [if_neg h1]
    by_cases h2 : 97 ≤ c ∧ c ≤ 102
    · rw [if_pos h2]
      intro _
      left
      unfold loN
      rw [if_neg (by omega)]
      omega
    · rw [if_neg h2]
      by_cases h3 : 65 ≤ c ∧ c ≤ 70
      · rw [if_pos h3]
        intro _
        right
        unfold upN
        rw [if_neg (by omega)]
        omega
      · rw [if_neg h3]
        intro h
        omega

set_option maxHeartbeats 400000 in
theorem digit8 (c : Nat) (w : World) (_hc : c < 256) :
    Calls Trym.prog 8 #[.int .u8 (c : Int)] w fun e w' => e = .returned (.int .i64 (dI c)) ∧ w' = w := by
  go_enter Trym.func8, Trym.ntmps8
  go_wp2
  go_loop [3] (fun i => ∃ k : Nat, k ≤ 16 ∧ i = .int .i64 k ∧ ∀ j, j < k → loN j ≠ c ∧ upN j ≠ c) (fun i => 16 - (intOf i).toNat)
  case atStart => exact ⟨0, Nat.zero_le _, rfl, fun j hj => by omega⟩
  case round =>
    obtain ⟨k, hk, rfl, hno⟩ := hrel
    have HN := hide hno
    clear hno
    by_cases hlt : k < 16
    · have hlo := index_lo k hlt
      have hup := index_up k hlt
      by_cases h1 : loN k = c
      · have HF : Hid ((k : Int) = dI c) := by
          show (k : Int) = dI c
          unfold dI
          rw [← h1, dg_lo k hlt, if_pos hlt]
        have t1 : ((loN k : Int) == (c : Int)) = true := beq_iff_eq.2 (by omega)
        clear h1
        go_wp2
        go_ret
        exact ⟨ret_int HF.out, rfl⟩
      · have t1 : ((loN k : Int) == (c : Int)) = false := beq_eq_false_iff_ne.2 (by omega)
        by_cases h2 : upN k = c
        · have HF : Hid ((k : Int) = dI c) := by
            show (k : Int) = dI c
            unfold dI
            rw [← h2, dg_up k hlt, if_pos hlt]
          have t2 : ((upN k : Int) == (c : Int)) = true := beq_iff_eq.2 (by omega)
          clear h1 h2
          go_wp2
          go_ret
          exact ⟨ret_int HF.out, rfl⟩
        · have t2 : ((upN k : Int) == (c : Int)) = false := beq_eq_false_iff_ne.2 (by omega)
          have HS : Hid (∀ j, j < k + 1 → loN j ≠ c ∧ upN j ≠ c) := fun j hj => by
            by_cases e : j < k
            · exact HN.out j e
            · obtain rfl : j = k := by omega
              exact ⟨h1, h2⟩
          clear h1 h2
          go_wp2
          go_round
          case rel => exact ⟨k + 1, by omega, by go_num, HS.out⟩
          case measure => simp [intOf]; omega
    · obtain rfl : k = 16 := by omega
      have HF : Hid ((-1 : Int) = dI c) := by
        show (-1 : Int) = dI c
        unfold dI
        rw [if_neg]
        intro h
        have h3 := HN.out (dg c) h
        rcases dg_table c h with h4 | h4
        · exact h3.1 h4
        · exact h3.2 h4
      go_wp2
      go_ret
      exact ⟨ret_int HF.out, rfl⟩

end Go.Proofs.Qxb6600601aMods.DigitWalks
