/-
  THE PLAIN LAW OF THE ARRAY OF BOOLEANS: the text that is written, and what stands at each place of it. No Go in sight. By an AI agent.
-/
import Derived.Test.Qxb6600601aModsHex
import Derived.Lib.Strings
namespace Go.Proofs.Qxb6600601aMods.Text
open Go.Proofs.Qxb6600601aMods.Hex

def item (b : Bool) : List UInt8 := if b then [116, 114, 117, 101] else [102, 97, 108, 115, 101]

/-- Element j, with what stands ahead of it and behind it. -/
def elem (L : List UInt8) (j : Nat) (b : Bool) : List UInt8 := (if j = 0 then [] else 44 :: L) ++ (item b ++ L)

/-- What has been written behind i elements. -/
def cont (L : List UInt8) (V : Nat → Bool) : Nat → List UInt8
  | 0 => 91 :: L
  | i + 1 => cont L V i ++ elem L i (V i)

theorem item_len (b : Bool) : (item b).length ≤ 5 := by cases b <;> decide

theorem elem_len (L : List UInt8) (j : Nat) (b : Bool) : (elem L j b).length ≤ 6 + 2 * L.length := by
  have := item_len b
  unfold elem
  by_cases h : j = 0
  · rw [if_pos h]; simp; omega
  · rw [if_neg h]; simp; omega

theorem cont_len (L : List UInt8) (V : Nat → Bool) : ∀ i, (cont L V i).length ≤ 1 + L.length + i * (6 + 2 * L.length)
  | 0 => by simp [cont]; omega
  | i + 1 => by
    have h1 := cont_len L V i
    have h2 := elem_len L i (V i)
    rw [cont, List.length_append, Nat.add_mul, Nat.one_mul]
    omega

/-- The place where the white space ahead of element i (or of the end) begins. -/
def eP (L : List UInt8) (V : Nat → Bool) (i : Nat) : Nat := (cont L V i).length - L.length

/-- What is written behind i elements ends in white space. -/
theorem cont_ends (L : List UInt8) (V : Nat → Bool) : ∀ i, ∃ a, cont L V i = a ++ L ∧ a.length = eP L V i
  | 0 => ⟨[91], rfl, by simp [eP, cont]⟩
  | i + 1 => by
    refine ⟨cont L V i ++ ((if i = 0 then [] else 44 :: L) ++ item (V i)), ?_, ?_⟩
    · simp [cont, elem, List.append_assoc]
    · simp [eP, cont, elem]
      omega

theorem eP_le (L : List UInt8) (V : Nat → Bool) (i : Nat) : eP L V i + L.length = (cont L V i).length := by
  obtain ⟨a, h, hl⟩ := cont_ends L V i
  rw [h, List.length_append, hl]

theorem cont_prefix (L : List UInt8) (V : Nat → Bool) (k : Nat) : ∀ m, ∃ t, cont L V (k + m) = cont L V k ++ t
  | 0 => ⟨[], by simp⟩
  | m + 1 => by
    obtain ⟨t, h⟩ := cont_prefix L V k m
    exact ⟨t ++ elem L (k + m) (V (k + m)), by rw [← Nat.add_assoc, cont, h, List.append_assoc]⟩

/-- The whole text. -/
def doc (L : List UInt8) (V : Nat → Bool) (n : Nat) : ByteArray := ⟨(cont L V n ++ [93]).toArray⟩

theorem doc_list (L : List UInt8) (V : Nat → Bool) (n : Nat) : (doc L V n).data.toList = cont L V n ++ [93] := by simp [doc]

theorem doc_size (L : List UInt8) (V : Nat → Bool) (n : Nat) : (doc L V n).size = (cont L V n).length + 1 := by
  have h : (doc L V n).size = (doc L V n).data.toList.length := by simp
  rw [h, doc_list, List.length_append]
  rfl

/-- The text parted at element k. -/
theorem doc_at (L : List UInt8) (V : Nat → Bool) (n k : Nat) (hk : k < n) : ∃ t, (doc L V n).data.toList = cont L V k ++ (elem L k (V k) ++ t) := by
  obtain ⟨t, h⟩ := cont_prefix L V (k + 1) (n - (k + 1))
  rw [show k + 1 + (n - (k + 1)) = n by omega] at h
  exact ⟨t ++ [93], by rw [doc_list, h, cont]; simp [List.append_assoc]⟩

theorem at_mid (D : ByteArray) (a m t : List UInt8) (h : D.data.toList = a ++ (m ++ t)) (j : Nat) (hj : j < m.length) : at0 D (a.length + j) = (m[j]'hj).toNat := by
  unfold at0
  rw [h, List.getD_eq_getElem?_getD, List.getElem?_append_right (by omega), Nat.add_sub_cancel_left, List.getElem?_append_left hj, List.getElem?_eq_getElem hj]
  rfl

/-- The white space. -/
def spc (c : Nat) : Prop := c = 32 ∨ c = 9 ∨ c = 10 ∨ c = 13

theorem ws_at (D : ByteArray) (a L t : List UInt8) (hL : ∀ x ∈ L, spc x.toNat) (h : D.data.toList = a ++ (L ++ t)) : ∀ i, a.length ≤ i → i < a.length + L.length → spc (at0 D i) := by
  intro i h1 h2
  have := at_mid D a L t h (i - a.length) (by omega)
  rw [show a.length + (i - a.length) = i by omega] at this
  rw [this]
  exact hL _ (List.getElem_mem _)

/-- Ahead of element k (or of the end) stands white space. -/
theorem doc_ws (L : List UInt8) (V : Nat → Bool) (n k : Nat) (hk : k ≤ n) (hL : ∀ x ∈ L, spc x.toNat) : ∀ i, eP L V k ≤ i → i < (cont L V k).length → spc (at0 (doc L V n) i) := by
  obtain ⟨a, h, hl⟩ := cont_ends L V k
  obtain ⟨t, ht⟩ := cont_prefix L V k (n - k)
  rw [show k + (n - k) = n by omega] at ht
  have hd : (doc L V n).data.toList = a ++ (L ++ (t ++ [93])) := by rw [doc_list, ht, h]; simp [List.append_assoc]
  have := ws_at (doc L V n) a L _ hL hd
  rw [hl, eP_le] at this
  exact this

/-- At the end stands the bracket. -/
theorem doc_end (L : List UInt8) (V : Nat → Bool) (n : Nat) : at0 (doc L V n) (cont L V n).length = 93 := by
  have := at_mid (doc L V n) (cont L V n) [93] [] (by rw [doc_list]; rfl) 0 (by decide)
  simpa using this

/-- Where element k's own text begins. -/
def iP (L : List UInt8) (V : Nat → Bool) (k : Nat) : Nat := if k = 0 then (cont L V k).length else (cont L V k).length + 1 + L.length

theorem eP_succ (L : List UInt8) (V : Nat → Bool) (k : Nat) : eP L V (k + 1) = iP L V k + (item (V k)).length := by
  have h := eP_le L V (k + 1)
  rw [cont, List.length_append] at h
  unfold elem at h
  unfold iP
  by_cases e : k = 0
  · rw [if_pos e] at h ⊢
    simp at h
    omega
  · rw [if_neg e] at h ⊢
    simp at h
    omega

theorem doc_comma (L : List UInt8) (V : Nat → Bool) (n k : Nat) (hk : k < n) (h0 : k ≠ 0) : at0 (doc L V n) (cont L V k).length = 44 := by
  obtain ⟨t, h⟩ := doc_at L V n k hk
  unfold elem at h
  rw [if_neg h0] at h
  have := at_mid (doc L V n) (cont L V k) [44] (L ++ (item (V k) ++ L) ++ t) (by rw [h]; simp [List.append_assoc]) 0 (by decide)
  simpa using this

theorem doc_ws2 (L : List UInt8) (V : Nat → Bool) (n k : Nat) (hk : k < n) (h0 : k ≠ 0) (hL : ∀ x ∈ L, spc x.toNat) :
    ∀ i, (cont L V k).length + 1 ≤ i → i < iP L V k → spc (at0 (doc L V n) i) := by
  obtain ⟨t, h⟩ := doc_at L V n k hk
  unfold elem at h
  rw [if_neg h0] at h
  have := ws_at (doc L V n) (cont L V k ++ [44]) L (item (V k) ++ L ++ t) hL (by rw [h]; simp [List.append_assoc])
  unfold iP
  rw [if_neg h0]
  simpa [List.length_append] using this

/-- Element k's own text stands at its place. -/
theorem doc_item (L : List UInt8) (V : Nat → Bool) (n k : Nat) (hk : k < n) : ∃ a t, (doc L V n).data.toList = a ++ (item (V k) ++ t) ∧ a.length = iP L V k ∧ 1 ≤ t.length := by
  obtain ⟨t, h⟩ := cont_prefix L V (k + 1) (n - (k + 1))
  rw [show k + 1 + (n - (k + 1)) = n by omega] at h
  unfold iP
  by_cases e : k = 0
  · rw [if_pos e]
    exact ⟨cont L V k, L ++ (t ++ [93]), by rw [doc_list, h, cont, elem, if_pos e]; simp [List.append_assoc], rfl, by simp; omega⟩
  · rw [if_neg e]
    exact ⟨cont L V k ++ (44 :: L), L ++ (t ++ [93]), by rw [doc_list, h, cont, elem, if_neg e]; simp [List.append_assoc], by simp; omega, by simp; omega⟩

theorem cut_word (D W : ByteArray) (a t : List UInt8) (q : Nat) (h : D.data.toList = a ++ (W.data.toList ++ t)) (hq : a.length = q) : (D.extract q D.size).extract 0 W.size = W := by
  have hs : D.data.toList.length = D.size := by simp
  have hw : W.data.toList.length = W.size := by simp
  have e : ((D.extract q D.size).extract 0 W.size).data.toList = W.data.toList := by
    have h1 : (W.data.toList ++ t).length ≤ D.size - q := by rw [← hs, h, List.length_append (as := a), hq]; omega
    rw [Lib.extract_data, Lib.extract_data, h, ← hq, List.drop_left, List.drop_zero, Nat.sub_zero, hq, List.take_of_length_le h1, ← hw, List.take_left]
  cases W with
  | mk w =>
    have e2 : ((D.extract q D.size).extract 0 (ByteArray.mk w).size).data = w := Array.ext' e
    show ByteArray.mk ((D.extract q D.size).extract 0 (ByteArray.mk w).size).data = _
    rw [e2]

end Go.Proofs.Qxb6600601aMods.Text
