/-
  THE PLAIN LAW OF hex4: no Go in sight. By an AI agent.
-/
import Derived.Laws.IdiomStrings
import Derived.Laws.BitsAllLaws
import Derived.Laws.BitsLemmas
import Derived.Laws.DeepBits32
namespace Go.Proofs.Qxb6600601aMods.Hex

/-- Byte i of a string, or 0. -/
def at0 (s : ByteArray) (i : Nat) : Nat := (s.data.toList.getD i 0).toNat

theorem at0_get (s : ByteArray) (i : Nat) (h : i < s.size) : s[i].toNat = at0 s i := by
  unfold at0
  have h' : i < s.data.toList.length := by simpa using h
  rw [List.getD_eq_getElem?_getD, List.getElem?_eq_getElem h', Option.getD_some]
  rfl

theorem at0_lt (s : ByteArray) (i : Nat) : at0 s i < 256 := UInt8.toNat_lt _

/-- The value of a hexadecimal digit's byte; 16 where it is none. -/
def dg (c : Nat) : Nat := if 48 ≤ c ∧ c ≤ 57 then c - 48 else if 97 ≤ c ∧ c ≤ 102 then c - 87 else if 65 ≤ c ∧ c ≤ 70 then c - 55 else 16

theorem dg_le (c : Nat) : dg c ≤ 16 := by
  unfold dg
  split
  · omega
  · split
    · omega
    · split <;> omega

/-- The first k digits behind the '\u', read. -/
def rv (s : ByteArray) : Nat → Nat
  | 0 => 0
  | k + 1 => rv s k * 16 + dg (at0 s (2 + k))

/-- The first k bytes behind the '\u' are digits. -/
def good (s : ByteArray) (k : Nat) : Prop := ∀ i, i < k → dg (at0 s (2 + i)) < 16

theorem good_succ {s : ByteArray} {k : Nat} (h : good s k) (hk : dg (at0 s (2 + k)) < 16) : good s (k + 1) := by
  intro i hi
  by_cases e : i < k
  · exact h i e
  · obtain rfl : i = k := by omega
    exact hk

theorem rv_lt (s : ByteArray) : ∀ k, good s k → rv s k < 16 ^ k
  | 0, _ => by simp [rv]
  | k + 1, h => by
    have h1 := rv_lt s k (fun i hi => h i (by omega))
    have h2 := h k (by omega)
    simp only [rv, Nat.pow_succ]
    omega

/-- Does s begin with '\u' and hold four bytes more? -/
def head (s : ByteArray) : Prop := 6 ≤ s.size ∧ at0 s 0 = 92 ∧ at0 s 1 = 117

/-- The round: 'rn<<4 | rune(c)'. -/
theorem round_or (s : ByteArray) (k c : Nat) (hg : good s k) (hk : k < 4) (hc : c < 16) :
    bits .or .i32 (IntKind.i32.wrap ((rv s k : Nat) * 16)) (c : Nat) = ((rv s k * 16 + c : Nat) : Int) := by
  have h1 := rv_lt s k hg
  have h2 : 16 ^ k ≤ 16 ^ 3 := Nat.pow_le_pow_right (by omega) (by omega)
  have h2' : 16 ^ k ≤ 4096 := by simpa using h2
  rw [wrap_i32_small _ (by omega) (by omega), bits_join .i32 31 (by decide) wraps_i32 4 _ _ (by omega) (by omega) (by omega) (by omega) (by omega) (by omega)]
  omega

end Go.Proofs.Qxb6600601aMods.Hex
