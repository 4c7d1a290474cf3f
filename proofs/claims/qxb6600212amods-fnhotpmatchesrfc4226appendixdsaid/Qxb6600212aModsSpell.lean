/-
  THE PLAIN LAW OF spell: no Go in sight. By an AI agent.
-/
import Derived.Laws.IdiomStrings
namespace Go.Proofs.Qxb6600212aMods.Spell

/-- Byte i of a string, or 0. -/
def at0 (s : ByteArray) (i : Nat) : UInt8 := s.data.toList.getD i 0

theorem at0_get (s : ByteArray) (i : Nat) (h : i < s.size) : s[i] = at0 s i := by
  unfold at0
  have h' : i < s.data.toList.length := by simpa using h
  rw [List.getD_eq_getElem?_getD, List.getElem?_eq_getElem h', Option.getD_some]
  rfl

/-- The character at place j of v spelt in n characters. -/
def chr (s : ByteArray) (v n j : Nat) : UInt8 := at0 s (v / s.size ^ (n - 1 - j) % s.size)

/-- v spelt in n characters of s. -/
def spellL (s : ByteArray) (v n : Nat) : List UInt8 := (List.range n).map (chr s v n)
def spellS (s : ByteArray) (v n : Nat) : ByteArray := ⟨(spellL s v n).toArray⟩

theorem spellL_length (s : ByteArray) (v n : Nat) : (spellL s v n).length = n := by simp [spellL]
theorem spellS_size (s : ByteArray) (v n : Nat) : (spellS s v n).size = n := by
  show (spellL s v n).toArray.size = n
  simp [spellL]

theorem spellS_at (s : ByteArray) (v n i : Nat) (h : i < n) : at0 (spellS s v n) i = chr s v n i := by
  unfold at0 spellS spellL
  simp [h]

theorem spellS_get (s : ByteArray) (v n i : Nat) (h : i < n) (h' : i < (spellS s v n).size) : (spellS s v n)[i] = chr s v n i := by
  rw [at0_get, spellS_at s v n i h]

/-- THE LAW: the shorter spelling is the tail of the longer. -/
theorem chr_suffix (s : ByteArray) (v n m i : Nat) (hnm : n ≤ m) (hi : i < n) : chr s v m (m - n + i) = chr s v n i := by
  unfold chr
  rw [show m - 1 - (m - n + i) = n - 1 - i by omega]

end Go.Proofs.Qxb6600212aMods.Spell
