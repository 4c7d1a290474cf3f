/-
  PARTS OF THE LAW FnTruncateReadsBackToWindow: the copy that it makes; the ways on which it returns early. By an AI agent.
-/
import Derived.Test.Qxb6600212aModsTruncWalks
import Derived.Deep.OwnRows
import Derived.Laws.CopyRow
import Derived.Laws.CopyOwn
namespace Go.Proofs.Qxb6600212aMods.TruncParts
open Go.ChangeShapes Go.WideShapes Go.ChangeAt Go.RowKit

theorem info5 : (Trym.prog.info? 5).map (fun i => (i.zero, i.size, i.bytes)) = some (some (.int .u8 0), 1, 1) := by kernel_rfl
theorem size5 : (Trym.prog.info? 5).map (·.size) = some 1 := by kernel_rfl

open Go.Proofs.Qxb6600212aMods.Trunc Go.Proofs.Qxb6600212aMods.TruncWalks

/-- 'c := make([]byte, len(sum)); copy(c, sum)': the world behind is a variable; the new row holds the same bytes. -/
theorem make_copy (b off len cap : Nat) (B : Nat → Nat) (w : World) (hm : len ≤ 1048576) (hrow : Row w b off len B) (hp : 0 < len) :
    ∃ Z W2, (Instr.makeSlice 22 (.int .i64 (len : Int)) (.int .i64 (len : Int))).run Trym.prog w = .ok (.slice (some ⟨w.heap.size, 0, none⟩) len len) (w.alloc (.cells Z 5)) ∧
      (∀ ty, (Builtin.copy_ #[22, 22] ty #[.slice (some ⟨w.heap.size, 0, none⟩) len len, .slice (some ⟨b, off, none⟩) len cap]).run Trym.prog (w.alloc (.cells Z 5)) = .ok (.int .i64 (len : Int)) W2) ∧
      Row W2 w.heap.size 0 len B ∧ Below w.heap.size w W2 := by
  obtain ⟨hc, hb⟩ := hrow
  have hlt : b < w.heap.size := World.block_lt_of_cell? w (a := ⟨b, off + 0, none⟩) (hc 0 hp)
  refine ⟨madeCells #[.int .u8 0] len, (w.alloc (.cells (madeCells #[.int .u8 0] len) 5)).setRow w.heap.size ((List.range len).map fun i => Value.int .u8 (B i : Nat)).toArray, run_make_row' 22 5 (.int .u8 0) 1 Trym.underlying22 info5 rfl .i64 .i64 len (by omega) (by omega) w, ?_, ?_, ?_⟩
  · intro ty
    have h := run_copy_row (P := Trym.prog) (w.alloc (.cells (madeCells #[.int .u8 0] len) 5)) 22 22 ty 5 w.heap.size 0 len len ⟨b, off, none⟩ len cap (madeCells #[.int .u8 0] len) 5 ((List.range len).map fun i => Value.int .u8 (B i : Nat))
      Trym.underlying22 size5 (Go.Deep.blk_alloc_new _ _) (by simp) (by
        intro j v hj
        have hjl : j < len := by
          have := (List.getElem?_eq_some_iff.1 hj).1
          simpa using this
        rw [List.getElem?_map, List.getElem?_range hjl] at hj
        simp only [Option.map_some, Option.some.injEq] at hj
        rw [← hj, Addr.add_lit, ((Below.refl w.heap.size w).alloc (Nat.le_refl _) _).cell hlt]
        exact hc j hjl) (by simp [size_madeCells]) (by
        intro v hv
        obtain ⟨_, _, rfl⟩ := List.mem_map.1 hv
        rfl)
    rw [h]
    rw [List.drop_of_length_le (by simp [size_madeCells])]
    simp [goInt]
  · refine ⟨fun i hi => ?_, hb⟩
    have hr := setRow_heap (w.alloc (.cells (madeCells #[.int .u8 0] len) 5)) w.heap.size _ ((List.range len).map fun i => Value.int .u8 (B i : Nat)).toArray 5 _ (Go.Deep.blk_alloc_new _ _)
    simp only [World.cell?, hr]
    simp [hi]
  · exact below_setRow ((Below.refl _ _).alloc (Nat.le_refl _) _) (Nat.le_refl _) _

theorem bytes8 (a0 : Option Addr) (len0 cap0 : Nat) (a1 : Int) (w : World) (hm : len0 ≤ 1048576) :
    Calls Trym.prog 8 #[.slice a0 len0 cap0, .int .i64 a1] w fun e w' => e = .returned (.bool true) ∧ w' = w := by
  go_enter Trym.func8, Trym.ntmps8
  go_wp2
  go_ret
  exact ⟨rfl, rfl⟩

/-- The ways on which the law returns ahead of its work. -/
theorem early (a0 : Option Addr) (len0 cap0 : Nat) (a1 : Int) (w : World) (hm : len0 ≤ 9223372036854775807) (h1 : -9223372036854775808 ≤ a1) (h2 : a1 ≤ 9223372036854775807)
    (h : 1048576 < len0 ∨ a1 < 1 ∨ 8 < a1 ∨ (len0 : Int) < 15 + a1) :
    Calls Trym.prog 3 #[.slice a0 len0 cap0, .int .i64 a1] w fun e w' => e = .returned (.bool true) ∧ Below w.heap.size w w' := by
  by_cases g1 : (1048576 : Int) < (len0 : Int)
  · go_enter Trym.func3, Trym.ntmps3
    go_wp2
    go_ret
    exact ⟨rfl, Below.refl _ _⟩
  · by_cases g2 : a1 < 1
    · go_enter Trym.func3, Trym.ntmps3
      go_wp2
      go_ret
      exact ⟨rfl, Below.refl _ _⟩
    · by_cases g3 : 8 < a1
      · go_enter Trym.func3, Trym.ntmps3
        go_wp2
        go_ret
        exact ⟨rfl, Below.refl _ _⟩
      · have g4 : (len0 : Int) < 15 + a1 := by omega
        go_enter Trym.func3, Trym.ntmps3
        go_wp2
        go_ret
        exact ⟨rfl, Below.refl _ _⟩

end Go.Proofs.Qxb6600212aMods.TruncParts
