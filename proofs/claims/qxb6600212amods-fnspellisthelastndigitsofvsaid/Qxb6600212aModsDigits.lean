/-
  THE PLAIN LAW OF THE READ-BACK: no Go in sight. By an AI agent.
-/
import Derived.Test.Qxb6600212aModsSpell
namespace Go.Proofs.Qxb6600212aMods.Digits
open Go.Proofs.Qxb6600212aMods.Spell

/-- The digit at place i of v in base b, n digits. -/
def dig (b v n i : Nat) : Nat := v / b ^ (n - 1 - i) % b

/-- What has been read behind i digits. -/
def rd (b v n i : Nat) : Nat := v % b ^ n / b ^ (n - i)

theorem rd_zero (b v n : Nat) (hb : 0 < b) : rd b v n 0 = 0 := by
  unfold rd
  exact Nat.div_eq_of_lt (Nat.mod_lt _ (Nat.pow_pos hb))

theorem rd_last (b v n : Nat) : rd b v n n = v % b ^ n := by
  unfold rd
  simp

theorem rd_le (b v n i : Nat) : rd b v n i ≤ v := Nat.le_trans (Nat.div_le_self _ _) (Nat.mod_le _ _)

theorem dig_lt (b v n i : Nat) (hb : 0 < b) : dig b v n i < b := Nat.mod_lt _ hb

theorem dig_of_mod (b v n i : Nat) (hi : i < n) : v % b ^ n / b ^ (n - 1 - i) % b = dig b v n i := by
  unfold dig
  have h : b ^ n = b ^ (n - 1 - i) * b ^ (i + 1) := by rw [← Nat.pow_add, show n - 1 - i + (i + 1) = n by omega]
  rw [h, Nat.mod_mul_right_div_self, Nat.mod_mod_of_dvd _ (by rw [Nat.pow_succ]; exact Nat.dvd_mul_left _ _)]

theorem rd_succ (b v n i : Nat) (hi : i < n) : rd b v n (i + 1) = rd b v n i * b + dig b v n i := by
  unfold rd
  rw [← dig_of_mod b v n i hi, show n - (i + 1) = n - 1 - i by omega, show n - i = (n - 1 - i) + 1 by omega, Nat.pow_succ, ← Nat.div_div_eq_div_mul]
  rw [Nat.mul_comm]
  exact (Nat.div_add_mod _ _).symm

/-- The test against the overflow says no. -/
theorem no_over (b v n i : Nat) (hb : 0 < b) (hi : i < n) (hv : v < 18446744073709551616) :
    ((rd b v n i : Nat) : Int) ≤ (18446744073709551615 - ((dig b v n i : Nat) : Int)) / (b : Int) := by
  have h := rd_succ b v n i hi
  have h2 := rd_le b v n (i + 1)
  rw [Int.le_ediv_iff_mul_le (by omega)]
  rw [← Int.natCast_mul]
  generalize rd b v n i * b = x at *
  omega

theorem step_bd (b v n i : Nat) (hi : i < n) (hv : v < 18446744073709551616) : rd b v n i * b + dig b v n i < 18446744073709551616 := by
  rw [← rd_succ b v n i hi]
  exact Nat.lt_of_le_of_lt (rd_le b v n (i + 1)) hv

/-! ### the powers -/
theorem pow_stop (b v n k : Nat) (hb : 0 < b) (hk : k < n) (hv : v < 18446744073709551616) (h : (18446744073709551615 : Int) / (b : Int) < ((b ^ k : Nat) : Int)) : v % b ^ n = v := by
  have h1 : (18446744073709551615 : Int) < ((b ^ k : Nat) : Int) * (b : Int) := by
    exact (Int.ediv_lt_iff_lt_mul (by omega)).1 h
  have h2 : b ^ k * b ≤ b ^ n := by rw [← Nat.pow_succ]; exact Nat.pow_le_pow_right hb hk
  rw [← Int.natCast_mul] at h1
  apply Nat.mod_eq_of_lt
  omega

theorem pow_go (b k : Nat) (hb : 0 < b) (h : ¬ (18446744073709551615 : Int) / (b : Int) < ((b ^ k : Nat) : Int)) : b ^ k * b < 18446744073709551616 := by
  have h1 : ((b ^ k : Nat) : Int) ≤ (18446744073709551615 : Int) / (b : Int) := by omega
  rw [Int.le_ediv_iff_mul_le (by omega), ← Int.natCast_mul] at h1
  omega

/-- The characters that are read back are those that were spelt. -/
theorem chr_dig (s : ByteArray) (v n i : Nat) : chr s v n i = at0 s (dig s.size v n i) := rfl

end Go.Proofs.Qxb6600212aMods.Digits
