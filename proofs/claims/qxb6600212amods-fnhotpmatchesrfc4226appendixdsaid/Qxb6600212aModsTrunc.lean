/-
  THE PLAIN LAW OF truncate: no Go in sight. By an AI agent.
-/
import Derived.Laws.BitsAllLaws
namespace Go.Proofs.Qxb6600212aMods.Trunc

/-- The k bytes from place o on, read big-endian. -/
def tv (B : Nat → Nat) (o : Nat) : Nat → Nat
  | 0 => 0
  | k + 1 => tv B o k * 256 + B (o + k)

theorem tv_lt (B : Nat → Nat) (o : Nat) (hB : ∀ i, B i < 256) : ∀ k, tv B o k < 256 ^ k
  | 0 => by simp [tv]
  | k + 1 => by
    have := tv_lt B o hB k
    have := hB (o + k)
    simp only [tv, Nat.pow_succ]
    omega

theorem tv_div (B : Nat → Nat) (o : Nat) (hB : ∀ i, B i < 256) (k : Nat) : ∀ m, tv B o (k + m) / 256 ^ m = tv B o k
  | 0 => by simp
  | m + 1 => by
    rw [show k + (m + 1) = (k + m) + 1 from rfl, Nat.pow_succ, Nat.mul_comm, ← Nat.div_div_eq_div_mul]
    have h : tv B o (k + m + 1) / 256 = tv B o (k + m) := by
      have := hB (o + (k + m))
      simp only [tv]
      omega
    rw [h]
    exact tv_div B o hB k m

/-- What truncate answers: the n bytes with their top bit cleared. -/
def tr (B : Nat → Nat) (o n : Nat) : Nat := tv B o n % 2 ^ (8 * n - 1)

theorem pow256 (n : Nat) : 256 ^ n = 2 ^ (8 * n) := by
  rw [show (256 : Nat) = 2 ^ 8 from rfl, ← Nat.pow_mul]

theorem pow_le (n : Nat) (h : n ≤ 8) : 2 ^ (8 * n) ≤ 18446744073709551616 := by
  have : 2 ^ (8 * n) ≤ 2 ^ 64 := Nat.pow_le_pow_right (by omega) (by omega)
  simpa using this

theorem tr_lt (B : Nat → Nat) (o n : Nat) (hn : 1 ≤ n) : tr B o n < 2 ^ (8 * n) := by
  have h1 : tr B o n < 2 ^ (8 * n - 1) := Nat.mod_lt _ (Nat.pow_pos (by omega))
  exact Nat.lt_of_lt_of_le h1 (Nat.pow_le_pow_right (by omega) (by omega))

theorem tr_lt64 (B : Nat → Nat) (o n : Nat) (hn : 1 ≤ n) (h8 : n ≤ 8) : tr B o n < 18446744073709551616 :=
  Nat.lt_of_lt_of_le (tr_lt B o n hn) (pow_le n h8)

/-- The round of the loop: 'v<<8 | uint64(b)'. -/
theorem round_or (B : Nat → Nat) (o k : Nat) (hB : ∀ i, B i < 256) (hk : k < 8) :
    bits .or .u64 (IntKind.u64.wrap ((tv B o k : Nat) * 256)) (B (o + k) : Nat) = ((tv B o (k + 1) : Nat) : Int) := by
  have h1 := tv_lt B o hB k
  have h2 : 256 ^ k ≤ 256 ^ 7 := Nat.pow_le_pow_right (by omega) (by omega)
  have h2' : 256 ^ k ≤ 72057594037927936 := by simpa using h2
  have h3 := hB (o + k)
  have e : IntKind.u64.wrap ((tv B o k : Nat) * 256) = ((tv B o k * 256 : Nat) : Int) := by
    rw [IntKind.wrap_u64]
    omega
  rw [e, u64_or_nat _ _ (by omega) (by omega), nat_join 8 _ _ (by simp) (by simpa using h3)]
  rfl

/-- The end: 'v &^ (1 << (8*n - 1))'. -/
theorem clear_bit (v i : Nat) (h : v < 2 ^ (i + 1)) (hi : i < 64) : v &&& (18446744073709551615 - 2 ^ i) = v % 2 ^ i := by
  apply Nat.eq_of_testBit_eq
  intro j
  have hp : 2 ^ i < 2 ^ 64 := Nat.pow_lt_pow_right (by omega) hi
  have e : 18446744073709551615 - 2 ^ i = 2 ^ 64 - (2 ^ i + 1) := by omega
  rw [Nat.testBit_and, e, Nat.testBit_two_pow_sub_succ hp, Nat.testBit_two_pow, Nat.testBit_mod_two_pow]
  by_cases hj : j < i
  · simp [hj, show ¬ i = j by omega, show j < 64 by omega]
  · by_cases hij : i = j
    · simp [hij]
    · have : v.testBit j = false := Nat.testBit_lt_two_pow (Nat.lt_of_lt_of_le h (Nat.pow_le_pow_right (by omega) (by omega)))
      simp [this]

theorem end_andNot (B : Nat → Nat) (o n k : Nat) (hB : ∀ i, B i < 256) (hk : k = n) (hn : 1 ≤ n) (h8 : n ≤ 8) :
    bits .andNot .u64 ((tv B o k : Nat) : Int) (IntKind.u64.wrap (2 ^ (8 * n - 1))) = ((tr B o n : Nat) : Int) := by
  subst hk
  have h1 := tv_lt B o hB k
  rw [pow256] at h1
  have h2 := pow_le k h8
  have h3 : 2 ^ (8 * k - 1) < 2 ^ (8 * k) := Nat.pow_lt_pow_right (by omega) (by omega)
  have e : IntKind.u64.wrap (2 ^ (8 * k - 1)) = ((2 ^ (8 * k - 1) : Nat) : Int) := by
    rw [IntKind.wrap_u64]
    have : ((2 : Int) ^ (8 * k - 1)) = ((2 ^ (8 * k - 1) : Nat) : Int) := by simp
    rw [this]
    exact Int.emod_eq_of_lt (Int.natCast_nonneg _) (by generalize 2 ^ (8 * k - 1) = x at *; omega)
  rw [e, u64_andNot_nat _ _ (by omega) (by omega), clear_bit _ _ (by rw [show 8 * k - 1 + 1 = 8 * k by omega]; exact h1) (by omega)]
  rfl

/-- THE LAW: byte i of the answer. -/
theorem tr_byte (B : Nat → Nat) (o n i : Nat) (hB : ∀ i, B i < 256) (hi : i < n) :
    tr B o n / 2 ^ (8 * (n - 1 - i)) % 256 = if i = 0 then B o % 128 else B (o + i) := by
  have hsplit : 8 * n - 1 = 8 * (n - 1 - i) + (8 * i + 7) := by omega
  unfold tr
  rw [hsplit, Nat.pow_add, Nat.mod_mul_right_div_self]
  have hd : tv B o n / 2 ^ (8 * (n - 1 - i)) = tv B o (i + 1) := by
    have := tv_div B o hB (i + 1) (n - 1 - i)
    rw [show i + 1 + (n - 1 - i) = n by omega, pow256] at this
    exact this
  rw [hd]
  by_cases h0 : i = 0
  · subst h0
    have := hB o
    simp only [tv, if_pos]
    simp
    omega
  · rw [if_neg h0]
    have hdv : 256 ∣ 2 ^ (8 * i + 7) := by
      rw [show (256 : Nat) = 2 ^ 8 from rfl]
      exact Nat.pow_dvd_pow 2 (by omega)
    rw [Nat.mod_mod_of_dvd _ hdv]
    have := hB (o + i)
    simp only [tv]
    omega

/-- THE LAW: nothing is set above. -/
theorem tr_above (B : Nat → Nat) (o n : Nat) (hn : 1 ≤ n) : tr B o n / 2 ^ (8 * n) = 0 :=
  Nat.div_eq_of_lt (tr_lt B o n hn)

theorem cast_byte (R e : Nat) : (R : Int) / 2 ^ e % 256 = ((R / 2 ^ e % 256 : Nat) : Int) := by
  rw [Int.natCast_emod, Int.natCast_ediv, Int.natCast_pow]
  rfl

theorem cast_div (R e : Nat) : (R : Int) / 2 ^ e = ((R / 2 ^ e : Nat) : Int) := by
  rw [Int.natCast_ediv, Int.natCast_pow]
  rfl

end Go.Proofs.Qxb6600212aMods.Trunc
