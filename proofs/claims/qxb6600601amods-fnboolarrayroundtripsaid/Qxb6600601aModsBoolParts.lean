/-
  PARTS OF THE LAW FnBoolArrayRoundTrip: the ways on which it returns early; the copy that it makes. By an AI agent.
-/
import Derived.Test.Qxb6600601aModsSteps
import Derived.Test.Qxb6600601aModsBuf
import Derived.Deep.Grids
import Derived.Deep.OwnRows
import Derived.Laws.CopyRow
import Derived.Laws.CopyOwn
import Derived.WalkSpells
import Derived.Deep.DeepCutAuto
namespace Go.Proofs.Qxb6600601aMods.BoolParts
open Go.ChangeShapes Go.WideShapes Go.ChangeAt Go.RowKit
open Go.Proofs.Qxb6600601aMods.Hex Go.Proofs.Qxb6600601aMods.HexWalks Go.Proofs.Qxb6600601aMods.Buf Go.Proofs.Qxb6600601aMods.ReadWalks Go.Proofs.Qxb6600601aMods.ReadWalks2 Go.Proofs.Qxb6600601aMods.Text Go.Proofs.Qxb6600601aMods.Steps

theorem bytes19 (a : Option Addr) (len cap : Nat) (s : ByteArray) (w : World) (hl : len ≤ 4096) (hs : s.size ≤ 4096) :
    Calls Trym.prog 19 #[.slice a len cap, .string s] w fun e w' => e = .returned (.bool true) ∧ w' = w := by
  go_enter Trym.func19, Trym.ntmps19
  go_wp2
  go_ret
  exact ⟨rfl, rfl⟩

/-- It returned a truth value. -/
def IsBool (e : Ending) : Prop := ∃ z, e = .returned (.bool z)

theorem bytes19_any (a : Option Addr) (len cap : Nat) (s : ByteArray) (w : World) (hl : len ≤ 9223372036854775807) (hs : s.size ≤ 9223372036854775807) :
    Calls Trym.prog 19 #[.slice a len cap, .string s] w fun e w' => IsBool e ∧ w' = w := by
  by_cases h1 : (1048576 : Int) < (len : Int)
  · go_enter Trym.func19, Trym.ntmps19
    go_wp2
    go_ret
    exact ⟨⟨_, rfl⟩, rfl⟩
  · by_cases h2 : (1048576 : Int) < (s.size : Int)
    · go_enter Trym.func19, Trym.ntmps19
      go_wp2
      go_ret
      exact ⟨⟨_, rfl⟩, rfl⟩
    · by_cases h3 : (1048576 : Int) < (len : Int) + (s.size : Int)
      · go_enter Trym.func19, Trym.ntmps19
        go_wp2
        go_ret
        exact ⟨⟨_, rfl⟩, rfl⟩
      · go_enter Trym.func19, Trym.ntmps19
        go_wp2
        go_ret
        exact ⟨⟨_, rfl⟩, rfl⟩

set_option maxRecDepth 100000 in
/-- The ways on which the law returns ahead of its work. -/
theorem early (a : Option Addr) (len cap : Nat) (s : ByteArray) (w : World) (hl : len ≤ 9223372036854775807) (hs : s.size ≤ 9223372036854775807) (h : 4096 < len ∨ 4096 < s.size) :
    Calls Trym.prog 6 #[.slice a len cap, .string s] w fun e w' => e = .returned (.bool true) ∧ Below w.heap.size w w' := by
  by_cases h1 : (4096 : Int) < (len : Int)
  · go_enter Trym.func6, Trym.ntmps6
    go_wp2_with fail
    refine (bytes19_any a len cap s w hl hs).mono ?_
    rintro e w8 ⟨⟨z, rfl⟩, h8⟩
    obtain rfl := h8.symm
    cases z
    · go_wp2
      go_ret
      exact ⟨rfl, Below.refl _ _⟩
    · go_wp2
      go_ret
      exact ⟨rfl, Below.refl _ _⟩
  · have h2 : (4096 : Int) < (s.size : Int) := by omega
    go_enter Trym.func6, Trym.ntmps6
    go_wp2_with fail
    refine (bytes19_any a len cap s w hl hs).mono ?_
    rintro e w8 ⟨⟨z, rfl⟩, h8⟩
    obtain rfl := h8.symm
    cases z
    · go_wp2
      go_ret
      exact ⟨rfl, Below.refl _ _⟩
    · go_wp2
      go_ret
      exact ⟨rfl, Below.refl _ _⟩

set_option maxRecDepth 100000 in
theorem early2 (a : Option Addr) (len cap M : Nat) (s : ByteArray) (w : World) (hl : len ≤ 4096) (hs : s.size ≤ 4096) (hMul : (len : Int) * (6 + 2 * (s.size : Int)) = (M : Int)) (hM : M ≤ 33579008) (h : (1048576 : Int) < 2 + (s.size : Int) + (M : Int)) :
    Calls Trym.prog 6 #[.slice a len cap, .string s] w fun e w' => e = .returned (.bool true) ∧ Below w.heap.size w w' := by
  go_enter Trym.func6, Trym.ntmps6
  go_wp2_with (go_at_call 19; refine (bytes19 _ _ _ _ _ hl hs).mono ?_; rintro e w8 ⟨rfl, h8⟩; obtain rfl := h8.symm)
  go_ret
  exact ⟨rfl, Below.refl _ _⟩

theorem info4 : (Trym.prog.info? 4).map (fun i => (i.zero, i.size, i.bytes)) = some (some (.bool false), 1, 1) := by kernel_rfl
theorem size4 : (Trym.prog.info? 4).map (·.size) = some 1 := by kernel_rfl

/-- Block G holds the truth values V. -/
def VRow (w : World) (G len : Nat) (V : Nat → Bool) : Prop := ∀ i, i < len → w.cell? ⟨G, i, none⟩ = some (.bool (V i))

/-- 'cp := make([]bool, len(vals)); copy(cp, vals)'. -/
theorem make_copy (x : Addr) (len cap : Nat) (V : Nat → Bool) (w : World) (hl : len ≤ 4096) (hc : ∀ i, i < len → w.cell? (x.add i) = some (.bool (V i))) :
    ∃ Z W2, (Instr.makeSlice 36 (.int .i64 (len : Int)) (.int .i64 (len : Int))).run Trym.prog w = .ok (.slice (some ⟨w.heap.size, 0, none⟩) len len) (w.alloc (.cells Z 4)) ∧
      (∀ ty, (Builtin.copy_ #[36, 36] ty #[.slice (some ⟨w.heap.size, 0, none⟩) len len, .slice (some x) len cap]).run Trym.prog (w.alloc (.cells Z 4)) = .ok (.int .i64 (len : Int)) W2) ∧
      VRow W2 w.heap.size len V ∧ Below w.heap.size w W2 := by
  refine ⟨madeCells #[.bool false] len, (w.alloc (.cells (madeCells #[.bool false] len) 4)).setRow w.heap.size ((List.range len).map fun i => Value.bool (V i)).toArray, run_make_row' 36 4 (.bool false) 1 Trym.underlying36 info4 rfl .i64 .i64 len (by omega) (by omega) w, ?_, ?_, ?_⟩
  · intro ty
    have h := run_copy_row (P := Trym.prog) (w.alloc (.cells (madeCells #[.bool false] len) 4)) 36 36 ty 4 w.heap.size 0 len len x len cap (madeCells #[.bool false] len) 4 ((List.range len).map fun i => Value.bool (V i))
      Trym.underlying36 size4 (Go.Deep.blk_alloc_new _ _) (by simp) (by
        intro j v hj
        have hjl : j < len := by
          have := (List.getElem?_eq_some_iff.1 hj).1
          simpa using this
        rw [List.getElem?_map, List.getElem?_range hjl] at hj
        simp only [Option.map_some, Option.some.injEq] at hj
        have hcj := hc j hjl
        rw [← hj, ((Below.refl w.heap.size w).alloc (Nat.le_refl _) _).cell (World.block_lt_of_cell? w _ hcj)]
        exact hcj) (by simp [size_madeCells]) (by
        intro v hv
        obtain ⟨_, _, rfl⟩ := List.mem_map.1 hv
        rfl)
    rw [h]
    rw [List.drop_of_length_le (by simp [size_madeCells])]
    simp [goInt]
  · intro i hi
    have hr := setRow_heap (w.alloc (.cells (madeCells #[.bool false] len) 4)) w.heap.size _ ((List.range len).map fun i => Value.bool (V i)).toArray 4 _ (Go.Deep.blk_alloc_new _ _)
    simp only [World.cell?, hr]
    simp [hi]
  · exact below_setRow ((Below.refl _ _).alloc (Nat.le_refl _) _) (Nat.le_refl _) _

end Go.Proofs.Qxb6600601aMods.BoolParts
