/-
  THE PLAIN LAW OF THE ROUND TRIP OF hex4: no Go in sight. By an AI agent.
-/
import Derived.Test.Qxb6600601aModsHex
namespace Go.Proofs.Qxb6600601aMods.Trip
open Go.Proofs.Qxb6600601aMods.Hex

def loN (d : Nat) : Nat := if d < 10 then 48 + d else 87 + d
def upN (d : Nat) : Nat := if d < 10 then 48 + d else 55 + d

/-- Digit k of v. -/
def dv (v k : Nat) : Nat := v / 2 ^ (12 - 4 * k) % 16

theorem dv_lt (v k : Nat) : dv v k < 16 := Nat.mod_lt _ (by omega)

/-- The character written for digit k. -/
def chr (v u k : Nat) : UInt8 := UInt8.ofNat (if u / 2 ^ k % 2 = 1 then upN (dv v k) else loN (dv v k))

theorem lo_lt (d : Nat) (h : d < 16) : loN d < 256 := by unfold loN; split <;> omega
theorem up_lt (d : Nat) (h : d < 16) : upN d < 256 := by unfold upN; split <;> omega

theorem dg_lo (d : Nat) (h : d < 16) : dg (loN d) = d := by
  unfold loN dg
  by_cases g : d < 10
  · rw [if_pos g, if_pos (by omega)]; omega
  · rw [if_neg g, if_neg (by omega), if_pos (by omega)]; omega

theorem dg_up (d : Nat) (h : d < 16) : dg (upN d) = d := by
  unfold upN dg
  by_cases g : d < 10
  · rw [if_pos g, if_pos (by omega)]; omega
  · rw [if_neg g, if_neg (by omega), if_neg (by omega), if_pos (by omega)]; omega

theorem chr_up (v u k : Nat) (h : u / 2 ^ k % 2 = 1) : (chr v u k).toNat = upN (dv v k) := by
  unfold chr
  rw [if_pos h, UInt8.toNat_ofNat']
  exact Nat.mod_eq_of_lt (up_lt _ (dv_lt v k))

theorem chr_lo (v u k : Nat) (h : ¬ u / 2 ^ k % 2 = 1) : (chr v u k).toNat = loN (dv v k) := by
  unfold chr
  rw [if_neg h, UInt8.toNat_ofNat']
  exact Nat.mod_eq_of_lt (lo_lt _ (dv_lt v k))

theorem dg_chr (v u k : Nat) : dg (chr v u k).toNat = dv v k := by
  by_cases h : u / 2 ^ k % 2 = 1
  · rw [chr_up v u k h, dg_up _ (dv_lt v k)]
  · rw [chr_lo v u k h, dg_lo _ (dv_lt v k)]

/-- What has been written behind k digits. -/
def pre (v u k : Nat) : List UInt8 := [92, 117] ++ (List.range k).map (chr v u)

theorem pre_succ (v u k : Nat) : pre v u (k + 1) = pre v u k ++ [chr v u k] := by
  simp [pre, List.range_succ]

/-- The whole text. -/
def text (v u : Nat) (rest : ByteArray) : ByteArray := ⟨(pre v u 4 ++ rest.data.toList).toArray⟩

theorem text_list (v u : Nat) (rest : ByteArray) : (text v u rest).data.toList = 92 :: 117 :: chr v u 0 :: chr v u 1 :: chr v u 2 :: chr v u 3 :: rest.data.toList := by
  simp [text, pre, List.range_succ]

theorem text_size (v u : Nat) (rest : ByteArray) : (text v u rest).size = 6 + rest.size := by
  have h1 : (text v u rest).size = (text v u rest).data.toList.length := by simp
  rw [h1, text_list]
  simp
  omega

theorem text_head (v u : Nat) (rest : ByteArray) : head (text v u rest) := by
  refine ⟨by rw [text_size]; omega, ?_, ?_⟩
  · unfold at0; rw [text_list]; rfl
  · unfold at0; rw [text_list]; rfl

theorem text_at (v u : Nat) (rest : ByteArray) (i : Nat) (h : i < 4) : dg (at0 (text v u rest) (2 + i)) = dv v i := by
  unfold at0
  rw [text_list]
  rcases (show i = 0 ∨ i = 1 ∨ i = 2 ∨ i = 3 by omega) with rfl | rfl | rfl | rfl
  · exact dg_chr v u 0
  · exact dg_chr v u 1
  · exact dg_chr v u 2
  · exact dg_chr v u 3

theorem text_good (v u : Nat) (rest : ByteArray) : good (text v u rest) 4 := fun i hi => by
  rw [text_at v u rest i hi]
  exact dv_lt v i

/-- THE LAW. -/
theorem text_rv (v u : Nat) (rest : ByteArray) (hv : v < 65536) : rv (text v u rest) 4 = v := by
  simp only [rv, text_at v u rest 0 (by omega), text_at v u rest 1 (by omega), text_at v u rest 2 (by omega), text_at v u rest 3 (by omega)]
  simp only [dv, Nat.mul_zero, Nat.sub_zero, Nat.mul_one, Nat.reducePow, Nat.reduceMul, Nat.reduceSub, Nat.div_one]
  omega

end Go.Proofs.Qxb6600601aMods.Trip
