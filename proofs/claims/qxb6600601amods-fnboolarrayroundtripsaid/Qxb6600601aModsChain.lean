/-
  THE APPENDS OF ONE ROUND OF THE WRITING LOOP. By an AI agent.
-/
import Derived.Test.Qxb6600601aModsBuf
import Derived.Test.Qxb6600601aModsText
namespace Go.Proofs.Qxb6600601aMods.Chain
open Go.ChangeShapes Go.WideShapes Go.ChangeAt Go.RowKit
open Go.Proofs.Qxb6600601aMods.Buf Go.Proofs.Qxb6600601aMods.Text

/-- The append of a string to the buffer, as an equation. -/
def AppS (w : World) (g m C : Nat) (s : ByteArray) (w' : World) : Prop :=
  (Builtin.append_ #[27, 9] 27 #[.slice (some ⟨g, 0, none⟩) m C, .string s]).run Trym.prog w = .ok (.slice (some ⟨g, 0, none⟩) (m + s.size) C) w'

/-- The append of one byte to the buffer, as an equation. -/
def App1 (w : World) (g m C : Nat) (c : Int) (w' : World) : Prop :=
  (Builtin.append_ #[27, 27] 27 #[.slice (some ⟨g, 0, none⟩) m C, .slice (some ⟨w.heap.size, 0, none⟩) 1 1]).run Trym.prog (w.alloc (.cells #[.int .u8 c] 5)) = .ok (.slice (some ⟨g, 0, none⟩) (m + 1) C) w'

theorem room (L : List UInt8) (V : Nat → Bool) (len k M C : Nat) (hk : k < len) (hM : len * (6 + 2 * L.length) = M) (hC : C = 2 + L.length + M) : (cont L V (k + 1)).length < C := by
  have h1 := cont_len L V (k + 1)
  have h2 : (k + 1) * (6 + 2 * L.length) ≤ len * (6 + 2 * L.length) := Nat.mul_le_mul_right _ hk
  omega

theorem chain0 (wr : World) (g m C : Nat) (L : List UInt8) (s W : ByteArray) (V : Nat → Bool) (hs : L = s.data.toList) (hW : W.data.toList = item (V 0)) (hb : Buf wr g g m C (cont L V 0)) (hroom : (cont L V 1).length ≤ C) :
    ∃ W1 W2, AppS wr g m C W W1 ∧ AppS W1 g (m + W.size) C s W2 ∧ Buf W2 g g (m + W.size + s.size) C (cont L V 1) ∧ Below g wr W2 := by
  have hm : (cont L V 0).length = m := hb.1
  have hws : (item (V 0)).length = W.size := by rw [← hW]; simp
  have hss : L.length = s.size := by rw [hs]; simp
  have hl : (cont L V 1).length = m + (W.size + s.size) := by
    rw [cont, List.length_append, hm]
    simp [elem, hws, hss]
  obtain ⟨W1, e1, b1, l1⟩ := append_str wr g g m C (cont L V 0) W hb (by omega)
  obtain ⟨W2, e2, b2, l2⟩ := append_str W1 g g (m + W.size) C (cont L V 0 ++ W.data.toList) s b1 (by omega)
  refine ⟨W1, W2, e1, e2, ?_, l1.trans l2⟩
  have : cont L V 1 = cont L V 0 ++ W.data.toList ++ s.data.toList := by
    show cont L V 0 ++ elem L 0 (V 0) = _
    unfold elem
    rw [if_pos rfl, hW, ← hs]
    simp [List.append_assoc]
  rw [this]
  exact b2

theorem chain1 (wr : World) (g m C k : Nat) (L : List UInt8) (s W : ByteArray) (V : Nat → Bool) (hs : L = s.data.toList) (hk : k ≠ 0) (hW : W.data.toList = item (V k)) (hb : Buf wr g g m C (cont L V k)) (hroom : (cont L V (k + 1)).length ≤ C) :
    ∃ Wa Wb W1 W2, App1 wr g m C 44 Wa ∧ AppS Wa g (m + 1) C s Wb ∧ AppS Wb g (m + 1 + s.size) C W W1 ∧ AppS W1 g (m + 1 + s.size + W.size) C s W2 ∧ Buf W2 g g (m + 1 + s.size + W.size + s.size) C (cont L V (k + 1)) ∧ Below g wr Wb ∧ Below g wr W2 := by
  have hm : (cont L V k).length = m := hb.1
  have hws : (item (V k)).length = W.size := by rw [← hW]; simp
  have hss : L.length = s.size := by rw [hs]; simp
  have hl : (cont L V (k + 1)).length = m + (1 + s.size + W.size + s.size) := by
    rw [cont, List.length_append, hm]
    simp [elem, hk, hws, hss]
    omega
  obtain ⟨Wa, ea, ba, la⟩ := append_new wr g g m C 1 (cont L V k) [44] #[.int .u8 44] hb rfl rfl (by omega)
  obtain ⟨Wb, eb, bb, lb⟩ := append_str Wa g g (m + 1) C (cont L V k ++ [44]) s ba (by omega)
  obtain ⟨W1, e1, b1, l1⟩ := append_str Wb g g (m + 1 + s.size) C (cont L V k ++ [44] ++ s.data.toList) W bb (by omega)
  obtain ⟨W2, e2, b2, l2⟩ := append_str W1 g g (m + 1 + s.size + W.size) C (cont L V k ++ [44] ++ s.data.toList ++ W.data.toList) s b1 (by omega)
  refine ⟨Wa, Wb, W1, W2, ea, eb, e1, e2, ?_, la.trans lb, ((la.trans lb).trans l1).trans l2⟩
  have : cont L V (k + 1) = cont L V k ++ [44] ++ s.data.toList ++ W.data.toList ++ s.data.toList := by
    show cont L V k ++ elem L k (V k) = _
    unfold elem
    rw [if_neg hk, hW, ← hs]
    simp [List.append_assoc]
  rw [this]
  exact b2

end Go.Proofs.Qxb6600601aMods.Chain
