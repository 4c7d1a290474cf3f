/-
  A BUFFER OF BYTES THAT THE CALL ITSELF MAKES WITH ROOM ENOUGH: what make, append and string() do to it. By an AI agent.
-/
import Derived.Test.Qxb6600601aModsRows
import Derived.Test.Qxb6600601aModsHex
import Derived.WalkKit
import Derived.ProofKit
import Derived.OpenShut
import Derived.ShutString
import Derived.ChangeOld
import Derived.Below
import Derived.Laws.IdiomStrings
import Derived.Lib.AppendStr
namespace Go.Proofs.Qxb6600601aMods.Buf
open Go.ChangeShapes Go.WideShapes Go.ChangeAt Go.RowKit

/-- The walk's step at an append whose run is known. -/
theorem wpList_append_eq {P : Program} {w : World} {ops : Array Oper} {rest : List Oper} {o : Oper} {a : Act} {Q : Exit → Act → World → Prop} (hg : o.guard = none) (s x : Operand) (t u : TypeId)
    (hop : o.op = Op.call { callee := Callee.builtin Builtin.append, args := #[s, x], argTypes := #[t, u] }) (v1 v2 v : Value) (w' : World)
    (hr : (Builtin.append_ #[t, u] o.type #[v1, v2]).run P w = .ok v w') (hs : a.eval s = v1) (hx : a.eval x = v2)
    (h : wpList P ops Q rest (a.put o.dst v) w') : wpList P ops Q (o :: rest) a w := by
  refine wpList_plain hg fun K hK => ?_
  unfold Oper.wp execOp
  simp only [hop, resolve, invoke, builtin, Sem.run_bind, Sem.run_pure, Result.andThen_ok, List.map_toArray, List.map_cons, List.map_nil, hs, hx, hr]
  exact hK _ _ h

theorem info5 : (Trym.prog.info? 5).map (fun i => (i.zero, i.size, i.bytes)) = some (some (.int .u8 0), 1, 1) := by kernel_rfl

def cellsL (L : List UInt8) : List Value := L.map fun b => Value.int .u8 b.toNat

/-- The slice at the head of block g, of n elements and room for cap, holds the bytes L; g is one of the call's own blocks (from B on). -/
def Buf (w : World) (B g n cap : Nat) (L : List UInt8) : Prop :=
  L.length = n ∧ B ≤ g ∧ w.ownsRow B 5 1 (.slice (some ⟨g, 0, none⟩) n cap) n (cellsL L)

theorem Buf.lt {w : World} {B g n cap : Nat} {L : List UInt8} (h : Buf w B g n cap L) : g < w.heap.size := by
  obtain ⟨_, _, _, h⟩ := h
  rcases h with ⟨h, _⟩ | ⟨g', cap', cur, h, hbg, hg, _⟩
  · cases h
  · simp only [Value.slice.injEq, Option.some.injEq, Addr.mk.injEq] at h
    obtain ⟨⟨rfl, _⟩, _⟩ := h
    exact (Array.getElem?_eq_some_iff.1 hg).1

theorem make_buf (w : World) (cap : Nat) (hc : cap ≤ 1099511627776) :
    ∃ W1, (Instr.makeSlice 27 (.int .i64 0) (.int .i64 (cap : Int))).run Trym.prog w = .ok (.slice (some ⟨w.heap.size, 0, none⟩) 0 cap) W1 ∧
      Buf W1 w.heap.size w.heap.size 0 cap [] ∧ Below w.heap.size w W1 := by
  obtain ⟨i, hi, hz0, hz1, hz2⟩ := info_parts info5
  obtain ⟨W1, h1, h2, h3⟩ := run_make_own (P := Trym.prog) w w.heap.size 27 5 i (.int .u8 0) 1 Trym.underlying27 hi hz0 hz1 .i64 .i64 cap (by rw [hz2]; omega) (by unfold maxLen; omega) (Nat.le_refl _)
  exact ⟨W1, h1, ⟨rfl, Nat.le_refl _, h2⟩, (Below.refl _ _).grown h3 (Nat.le_refl _) (fun k h => by cases h)⟩

/-- 'append(b, c1, .., cm)': the m bytes lie in a new block of their own. -/
theorem append_new (w : World) (B g n cap m : Nat) (L M : List UInt8) (A : Array Value) (hb : Buf w B g n cap L) (hm : M.length = m) (hA : A.toList = cellsL M) (hroom : n + m ≤ cap) :
    ∃ W2, (Builtin.append_ #[27, 27] 27 #[.slice (some ⟨g, 0, none⟩) n cap, .slice (some ⟨w.heap.size, 0, none⟩) m m]).run Trym.prog (w.alloc (.cells A 5)) = .ok (.slice (some ⟨g, 0, none⟩) (n + m) cap) W2 ∧
      Buf W2 B g (n + m) cap (L ++ M) ∧ Below B w W2 := by
  obtain ⟨i, hi, hz0, hz1, hz2⟩ := info_parts info5
  have hlt := hb.lt
  obtain ⟨hl, hBg, hown⟩ := hb
  obtain ⟨W2, h1, h2, h3⟩ := run_append_fits (P := Trym.prog) (w.alloc (.cells A 5)) B 27 27 5 i 1 Trym.underlying27 hi hz1 g n cap (cellsL L) (hown.alloc _) ⟨w.heap.size, 0, none⟩ m m (cellsL M)
    (by simp [cellsL, hm]) (by
      intro j u hu
      rw [← hA] at hu
      rw [Addr.add_lit, Nat.zero_add, World.cell?_alloc_new, ← Array.getElem?_toList]
      exact hu) (by
      intro u hu
      obtain ⟨_, _, rfl⟩ := List.mem_map.1 hu
      rfl) hroom
  refine ⟨W2, h1, ⟨by rw [List.length_append, hl, hm], hBg, ?_⟩, ?_⟩
  · have : cellsL (L ++ M) = cellsL L ++ cellsL M := by simp [cellsL]
    rw [this]
    exact h2
  · exact ((Below.refl B w).alloc (by omega) _).grown h3 (by simp; omega) (fun k h => by cases h; exact hBg)

/-- 'append(b, s...)', s a string. -/
theorem append_str (w : World) (B g n cap : Nat) (L : List UInt8) (s : ByteArray) (hb : Buf w B g n cap L) (hroom : n + s.size ≤ cap) :
    ∃ W2, (Builtin.append_ #[27, 9] 27 #[.slice (some ⟨g, 0, none⟩) n cap, .string s]).run Trym.prog w = .ok (.slice (some ⟨g, 0, none⟩) (n + s.size) cap) W2 ∧
      Buf W2 B g (n + s.size) cap (L ++ s.data.toList) ∧ Below B w W2 := by
  obtain ⟨i, hi, hz0, hz1, hz2⟩ := info_parts info5
  have hlt := hb.lt
  obtain ⟨hl, hBg, hx, h⟩ := hb
  rcases h with ⟨h, _⟩ | ⟨g', cap', cur, h, hbg, hg, hnc, hcm, hcs, htake⟩
  · cases h
  · simp only [Value.slice.injEq, Option.some.injEq, Addr.mk.injEq] at h
    obtain ⟨⟨rfl, _⟩, _, rfl⟩ := h
    have hcs' : cur.size = cap := by simpa using hcs
    have hr := Lib.run_append_room_string (P := Trym.prog) w 27 9 27 5 i Trym.underlying27 Trym.underlying9 hi hz1 g n cap cur hg s hroom (by omega)
    have hss : (s.data.toList).length = s.size := by simp
    have hsc : Lib.strCells s = cellsL s.data.toList := rfl
    have hlen : (cellsL L ++ cellsL s.data.toList).length = n + s.size := by simp [cellsL, hl]
    have ht' : cur.toList.take n = cellsL L := by simpa using htake
    refine ⟨_, hr, ⟨by rw [List.length_append, hl, hss], hBg, ?_, .inr ⟨g, cap, _, rfl, hbg, setRow_heap w g cur _ 5 _ hg, hroom, hcm, ?_, ?_⟩⟩, ?_⟩
    · simp [cellsL, hl]
    · simp only [List.size_toArray, List.length_append, List.length_take, List.length_drop, Array.length_toList, Lib.strCells_length]
      omega
    · have e : cellsL (L ++ s.data.toList) = cellsL L ++ cellsL s.data.toList := by simp [cellsL]
      rw [ht', hsc, e, Nat.mul_one, ← hlen]
      exact List.take_left
    · exact (Below.refl B w).trans ⟨rfl, rfl, rfl, by simp [World.setRow], fun k hk => setRow_other w g k _ (by omega)⟩

/-- 'string(b)'. -/
theorem to_string (w : World) (B g n cap : Nat) (L : List UInt8) (hb : Buf w B g n cap L) :
    (convert 27 9 (.slice (some ⟨g, 0, none⟩) n cap)).run Trym.prog w = .ok (.string ⟨L.toArray⟩) w := by
  obtain ⟨rfl, hBg, hown⟩ := hb
  refine run_convert_bytes_back (P := Trym.prog) w 27 9 5 ⟨g, 0, none⟩ cap L Trym.underlying27 Trym.underlying5 Trym.underlying9 (fun j hj => ?_)
  exact hown.cells rfl j _ (by simp [cellsL, hj])

end Go.Proofs.Qxb6600601aMods.Buf
