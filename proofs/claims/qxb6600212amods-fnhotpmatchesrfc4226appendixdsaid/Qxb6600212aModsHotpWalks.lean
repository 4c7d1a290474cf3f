/-
  THE WALKS OF THE FUNCTIONS UNDER FnHOTPMatchesRFC4226AppendixD; the law at the RFC's four counts. By an AI agent.
-/
import Derived.Test.Qxb6600212aModsTruncWalks
import Derived.Test.Qxb6600212aModsSpellWalks
import Derived.Deep.RegionWith
namespace Go.Proofs.Qxb6600212aMods.HotpWalks
open Go.ChangeShapes Go.WideShapes Go.ChangeAt Go.RowKit
open Go.Proofs.Qxb6600212aMods.Trunc Go.Proofs.Qxb6600212aMods.TruncWalks Go.Proofs.Qxb6600212aMods.Spell Go.Proofs.Qxb6600212aMods.SpellWalks

/-- The value of a hexadecimal digit's byte. -/
def nib (b : Nat) : Nat := if 48 ≤ b ∧ b ≤ 57 then b - 48 else if 97 ≤ b ∧ b ≤ 102 then b - 87 else 0
theorem nib_le (b : Nat) : nib b ≤ 15 := by unfold nib; split <;> (try split) <;> omega

theorem nib22 (b : Nat) (w : World) (hb : b < 256) :
    Calls Trym.prog 22 #[.int .u8 (b : Int)] w fun e w' => e = .returned (.int .u8 (nib b : Nat)) ∧ w' = w := by
  by_cases h1 : 48 ≤ b
  · by_cases h2 : b ≤ 57
    · have e : nib b = b - 48 := by unfold nib; rw [if_pos ⟨h1, h2⟩]
      have e' : ((nib b : Nat) : Int) = (b : Int) - 48 := by omega
      rw [e']
      clear e e'
      go_enter Trym.func22, Trym.ntmps22
      go_wp2
      go_ret
      exact ⟨rfl, rfl⟩
    · by_cases h3 : 97 ≤ b
      · by_cases h4 : b ≤ 102
        · have e : nib b = b - 87 := by unfold nib; rw [if_neg (by omega), if_pos ⟨h3, h4⟩]
          have e' : ((nib b : Nat) : Int) = (b : Int) - 97 + 10 := by omega
          rw [e']
          clear e e'
          go_enter Trym.func22, Trym.ntmps22
          go_wp2
          go_ret
          exact ⟨rfl, rfl⟩
        · have e : nib b = 0 := by unfold nib; rw [if_neg (by omega), if_neg (by omega)]
          rw [e]
          clear e
          go_enter Trym.func22, Trym.ntmps22
          go_wp2
          go_ret
          exact ⟨rfl, rfl⟩
      · have e : nib b = 0 := by unfold nib; rw [if_neg (by omega), if_neg (by omega)]
        rw [e]
        clear e
        go_enter Trym.func22, Trym.ntmps22
        go_wp2
        go_ret
        exact ⟨rfl, rfl⟩
  · have e : nib b = 0 := by unfold nib; rw [if_neg (by omega), if_neg (by omega)]
    rw [e]
    clear e
    go_enter Trym.func22, Trym.ntmps22
    go_wp2
    go_ret
    exact ⟨rfl, rfl⟩

def hexS (c : Nat) : ByteArray :=
  if c = 0 then ⟨#[99, 99, 57, 51, 99, 102, 49, 56, 53, 48, 56, 100, 57, 52, 57, 51, 52, 99, 54, 52, 98, 54, 53, 100, 56, 98, 97, 55, 54, 54, 55, 102, 98, 55, 99, 100, 101, 52, 98, 48]⟩
  else if c = 1 then ⟨#[55, 53, 97, 52, 56, 97, 49, 57, 100, 52, 99, 98, 101, 49, 48, 48, 54, 52, 52, 101, 56, 97, 99, 49, 51, 57, 55, 101, 101, 97, 55, 52, 55, 97, 50, 100, 51, 51, 97, 98]⟩
  else if c = 2 then ⟨#[48, 98, 97, 99, 98, 55, 102, 97, 48, 56, 50, 102, 101, 102, 51, 48, 55, 56, 50, 50, 49, 49, 57, 51, 56, 98, 99, 49, 99, 53, 101, 55, 48, 52, 49, 54, 102, 102, 52, 52]⟩
  else ⟨#[54, 54, 99, 50, 56, 50, 50, 55, 100, 48, 51, 97, 50, 100, 53, 53, 50, 57, 50, 54, 50, 102, 102, 48, 49, 54, 97, 49, 101, 54, 101, 102, 55, 54, 53, 53, 55, 101, 99, 101]⟩

theorem hex_size (c : Nat) : (hexS c).size = 40 := by
  unfold hexS
  split
  · rfl
  · split
    · rfl
    · split <;> rfl

theorem hex21 (c : Nat) (w : World) (hc : c < 4) :
    Calls Trym.prog 21 #[.int .i64 (c : Int)] w fun e w' => e = .returned (.string (hexS c)) ∧ w' = w := by
  rcases (show c = 0 ∨ c = 1 ∨ c = 2 ∨ c = 3 by omega) with rfl | rfl | rfl | rfl
  · go_enter Trym.func21, Trym.ntmps21
    go_wp2
    go_ret
    exact ⟨rfl, rfl⟩
  · go_enter Trym.func21, Trym.ntmps21
    go_wp2
    go_ret
    exact ⟨rfl, rfl⟩
  · go_enter Trym.func21, Trym.ntmps21
    go_wp2
    go_ret
    exact ⟨rfl, rfl⟩
  · go_enter Trym.func21, Trym.ntmps21
    go_wp2
    go_ret
    exact ⟨rfl, rfl⟩

/-- The bytes that the digits of H spell. -/
def mac (H : ByteArray) (i : Nat) : Nat := nib (at0 H (2 * i)).toNat * 16 + nib (at0 H (2 * i + 1)).toNat
theorem mac_lt (H : ByteArray) (i : Nat) : mac H i < 256 := by
  have := nib_le (at0 H (2 * i)).toNat
  have := nib_le (at0 H (2 * i + 1)).toNat
  unfold mac
  omega

theorem cell_mac (H : ByteArray) (k j : Nat) (_hj : j < 20) :
    (if j = k then Value.int .u8 (((nib (at0 H (2 * k)).toNat : Nat) * 16 % 256 + (nib (at0 H (2 * k + 1)).toNat : Nat)) % 256 : Int) else if j < k then Value.int .u8 (mac H j : Nat) else Value.int .u8 0) =
      if j < k + 1 then Value.int .u8 (mac H j : Nat) else Value.int .u8 0 := by
  by_cases e : j = k
  · subst e
    rw [if_pos rfl, if_pos (by omega)]
    have h1 := nib_le (at0 H (2 * j)).toNat
    have h2 := nib_le (at0 H (2 * j + 1)).toNat
    unfold mac
    generalize nib (at0 H (2 * j)).toNat = a at *
    generalize nib (at0 H (2 * j + 1)).toNat = b at *
    congr 1
    omega
  · rw [if_neg e]
    by_cases g : j < k
    · rw [if_pos g, if_pos (by omega)]
    · rw [if_neg g, if_neg (by omega)]

theorem index_fact (H : ByteArray) (i : Int) (n : Nat) (hi : i = (n : Int)) (h : n < H.size) (w : World) :
    (Instr.index 9 (.string H) (.int .i64 i)).run Trym.prog w = .ok (.int .u8 ((at0 H n).toNat : Int)) w := by
  subst hi
  rw [← at0_get H n h]
  simp [go_sem, h]

set_option maxHeartbeats 400000 in
theorem hmac11 (c : Nat) (H : ByteArray) (w : World) (hc : c < 4) (hHe : H = hexS c) :
    Calls Trym.prog 11 #[.int .i64 (c : Int)] w fun e w' => e = .returned (.slice (some ⟨w.heap.size, 0, none⟩) 20 20) ∧ Row w' w.heap.size 0 20 (mac H) ∧ Below w.heap.size w w' := by
  have hcall := hex21 c w hc
  have hH : H.size = 40 := by rw [hHe]; exact hex_size c
  rw [← hHe] at hcall
  have HC := hide hcall
  clear hHe hcall
  have hmk : ∀ w, (Instr.makeSlice 22 (.int .i64 20) (.int .i64 20)).run Trym.prog w = .ok (.slice (some ⟨w.heap.size, 0, none⟩) 20 20) (w.alloc (.cells (madeCells #[.int .u8 0] 20) 5)) := fun w => run_make_row' (P := Trym.prog) 22 5 (.int .u8 0) 1 Trym.underlying22 info5 rfl .i64 .i64 20 (by omega) (by omega) w
  have hrow0 := World.rowIs_made w (.int .u8 0) 20 5
  have hbel0 : Below w.heap.size w (w.alloc (.cells (madeCells #[.int .u8 0] 20) 5)) := (Below.refl _ _).alloc (Nat.le_refl _) _
  generalize madeCells #[Value.int .u8 0] 20 = Z at *
  have HR0 := hide hrow0
  have HB0 := hide hbel0
  clear hrow0 hbel0
  go_enter Trym.func11, Trym.ntmps11
  go_wp2_with fail
  refine (Calls.mono HC.out ?_)
  rintro e w8 ⟨rfl, h8⟩
  obtain rfl := h8.symm
  go_wp2
  go_loopw [5] (fun i wr => ∃ k : Nat, k ≤ 20 ∧ i = .int .i64 k ∧ wr.rowIs w.heap.size 5 20 (fun j => if j < k then .int .u8 (mac H j : Nat) else .int .u8 0) ∧ Below w.heap.size w wr) (fun i _ => 20 - (intOf i).toNat)
  case atStart => exact ⟨0, Nat.zero_le _, rfl, HR0.out.congr (fun i hi => by simp), HB0.out⟩
  case round =>
    obtain ⟨k, hk, rfl, hrow, hbel⟩ := hrel
    have HR := hide hrow
    have HB := hide hbel
    by_cases hlt : k < 20
    · have hcell := hrow.cell (i := k) hlt
      rw [if_neg (by omega)] at hcell
      have hfr := hrow.frozen k
      have hlt2 := hrow.lt
      clear hrow hbel
      have h1 : 2 * k < H.size := by omega
      have h2 : 2 * k + 1 < H.size := by omega
      have hi1 : 2 * (k : Int) < (H.size : Int) := by omega
      have hi2 : 2 * (k : Int) + 1 < (H.size : Int) := by omega
      clear hH
      have hi3 : (k : Int) < 20 := by omega
      have hx1 : ∀ wx, (Instr.index 9 (.string H) (.int .i64 (2 * (k : Int)))).run Trym.prog wx = .ok (.int .u8 ((at0 H (2 * k)).toNat : Int)) wx := index_fact H _ (2 * k) (by omega) h1
      have hx2 : ∀ wx, (Instr.index 9 (.string H) (.int .i64 (2 * (k : Int) + 1))).run Trym.prog wx = .ok (.int .u8 ((at0 H (2 * k + 1)).toNat : Int)) wx := index_fact H _ (2 * k + 1) (by omega) h2
      have hw1 : IntKind.i64.wrap (2 * (k : Int)) = 2 * (k : Int) := by rw [IntWalk.i64_left]; exact IntWalk.wrap64_in _ ⟨by omega, by omega⟩
      have hw2 : IntKind.i64.wrap (2 * (k : Int) + 1) = 2 * (k : Int) + 1 := by rw [IntWalk.i64_left]; exact IntWalk.wrap64_in _ ⟨by omega, by omega⟩
      go_wp2_with fail
      go_region_with (go_at_call 22; refine (nib22 _ _ ?_).mono ?_; exact UInt8.toNat_lt _; rintro e w' ⟨rfl, h9⟩; obtain rfl := h9.symm)
      all_goals
        go_wp2
        go_roundw
        case rel => exact ⟨k + 1, by omega, by go_num, ((HR.out.set _ _).congr (cell_mac H k)).drew, (HB.out.setCell (Nat.le_refl _) _).drew⟩
        case measure => simp [intOf]; omega
    · obtain rfl : k = 20 := by omega
      have HRow : Hid (Row wr w.heap.size 0 20 (mac H)) := ⟨fun i hi => by rw [Nat.zero_add, hrow.cell hi, if_pos hi], mac_lt H⟩
      clear hrow hbel
      go_wp2
      go_ret
      exact ⟨rfl, HRow.out, HB.out⟩

/-! ### the constants -/
def truncN (c : Nat) : Nat := if c = 0 then 1284755224 else if c = 1 then 1094287082 else if c = 2 then 137359152 else 1726969429

theorem trunc12 (c : Nat) (w : World) (hc : c < 4) :
    Calls Trym.prog 12 #[.int .i64 (c : Int)] w fun e w' => e = .returned (.int .u64 (truncN c : Nat)) ∧ w' = w := by
  rcases (show c = 0 ∨ c = 1 ∨ c = 2 ∨ c = 3 by omega) with rfl | rfl | rfl | rfl
  · go_enter Trym.func12, Trym.ntmps12
    go_wp2
    go_ret
    exact ⟨rfl, rfl⟩
  · go_enter Trym.func12, Trym.ntmps12
    go_wp2
    go_ret
    exact ⟨rfl, rfl⟩
  · go_enter Trym.func12, Trym.ntmps12
    go_wp2
    go_ret
    exact ⟨rfl, rfl⟩
  · go_enter Trym.func12, Trym.ntmps12
    go_wp2
    go_ret
    exact ⟨rfl, rfl⟩

def hotpS (c : Nat) : ByteArray :=
  if c = 0 then ⟨#[55, 53, 53, 50, 50, 52]⟩ else if c = 1 then ⟨#[50, 56, 55, 48, 56, 50]⟩ else if c = 2 then ⟨#[51, 53, 57, 49, 53, 50]⟩ else ⟨#[57, 54, 57, 52, 50, 57]⟩

theorem hotp14 (c : Nat) (w : World) (hc : c < 4) :
    Calls Trym.prog 14 #[.int .i64 (c : Int)] w fun e w' => e = .returned (.string (hotpS c)) ∧ w' = w := by
  rcases (show c = 0 ∨ c = 1 ∨ c = 2 ∨ c = 3 by omega) with rfl | rfl | rfl | rfl
  · go_enter Trym.func14, Trym.ntmps14
    go_wp2
    go_ret
    exact ⟨rfl, rfl⟩
  · go_enter Trym.func14, Trym.ntmps14
    go_wp2
    go_ret
    exact ⟨rfl, rfl⟩
  · go_enter Trym.func14, Trym.ntmps14
    go_wp2
    go_ret
    exact ⟨rfl, rfl⟩
  · go_enter Trym.func14, Trym.ntmps14
    go_wp2
    go_ret
    exact ⟨rfl, rfl⟩

def digitsS : ByteArray := ⟨#[48, 49, 50, 51, 52, 53, 54, 55, 56, 57]⟩

/-- THE LAW, at the four counts: by evaluation. -/
theorem rfc_trunc (c : Nat) (hc : c < 4) : tr (mac (hexS c)) (mac (hexS c) (20 - 1) % 16) 4 = truncN c := by
  rcases (show c = 0 ∨ c = 1 ∨ c = 2 ∨ c = 3 by omega) with rfl | rfl | rfl | rfl <;> decide +kernel

theorem rfc_hotp (c : Nat) (hc : c < 4) : spellS digitsS (truncN c) 6 = hotpS c := by
  rcases (show c = 0 ∨ c = 1 ∨ c = 2 ∨ c = 3 by omega) with rfl | rfl | rfl | rfl <;> decide +kernel

end Go.Proofs.Qxb6600212aMods.HotpWalks
