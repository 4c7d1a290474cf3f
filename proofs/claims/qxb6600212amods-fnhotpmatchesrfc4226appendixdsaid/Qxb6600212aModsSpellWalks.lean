/-
  THE WALKS OF spell AND ZZspell: each computes 'Spell.spellS'. By an AI agent.
-/
import Derived.Test.Qxb6600212aModsRows
import Derived.Test.Qxb6600212aModsSpell
import Derived.WalkKit
import Derived.ProofKit
import Derived.OpenShut
import Derived.ShutString
import Derived.ChangeOld
import Derived.Below
import Derived.Deep.OwnRows
import Derived.Laws.IdiomStrings
namespace Go.Proofs.Qxb6600212aMods.SpellWalks
open Go.ChangeShapes Go.WideShapes Go.ChangeAt Go.RowKit
open Go.Proofs.Qxb6600212aMods.Spell

theorem info5 : (Trym.prog.info? 5).map (fun i => (i.zero, i.size, i.bytes)) = some (some (.int .u8 0), 1, 1) := by kernel_rfl

theorem hide {p : Prop} (h : p) : Hid p := h

/-- What the row holds behind k rounds. -/
def cellAt (s : ByteArray) (v n k j : Nat) : Value := if j + k < n then .int .u8 0 else .int .u8 ((chr s v n j).toNat : Int)

theorem cell_round (s : ByteArray) (v n k V : Nat) (hk : k < n) (hV : V = v / s.size ^ k) (h : V % s.size < s.size) (j : Nat) (hj : j < n) :
    (if j = n - 1 - k then Value.int .u8 ((s[V % s.size]).toNat : Int) else cellAt s v n k j) = cellAt s v n (k + 1) j := by
  by_cases e : j = n - 1 - k
  · rw [if_pos e]
    unfold cellAt
    rw [if_neg (by omega), at0_get]
    unfold chr
    rw [show n - 1 - j = k by omega, ← hV]
  · rw [if_neg e]
    unfold cellAt
    by_cases g : j + (k + 1) < n
    · rw [if_pos (by omega), if_pos g]
    · rw [if_neg (by omega), if_neg g]

theorem div_round (v V b k : Nat) (hV : V = v / b ^ k) (h : V < 18446744073709551616) : IntKind.u64.wrap ((V : Int) / (b : Int)) = ((v / b ^ (k + 1) : Nat) : Int) := by
  rw [IntKind.wrap_u64, ← Int.natCast_ediv, Nat.pow_succ, ← Nat.div_div_eq_div_mul, ← hV]
  have : V / b ≤ V := Nat.div_le_self _ _
  generalize V / b = x at *
  omega

theorem conv (s : ByteArray) (v n g : Nat) (wr : World) (h : wr.rowIs g 5 n (cellAt s v n n)) :
    (convert 22 9 (.slice (some ⟨g, 0, none⟩) n n)).run Trym.prog wr = .ok (.string (spellS s v n)) wr := by
  have hl := spellL_length s v n
  have := run_convert_bytes_back (P := Trym.prog) wr 22 9 5 ⟨g, 0, none⟩ n (spellL s v n) Trym.underlying22 Trym.underlying5 Trym.underlying9 (by
    intro j hj
    rw [Addr.add_lit, Nat.zero_add, h.cell (by omega)]
    unfold cellAt
    rw [if_neg (by omega)]
    simp [spellL])
  rw [hl] at this
  exact this

set_option maxHeartbeats 400000 in
theorem spell23 (v n : Nat) (s : ByteArray) (w : World) (hs0 : 0 < s.size) (hs : s.size ≤ 1048576) (hn : n ≤ 65536) (hv : v < 18446744073709551616) :
    Calls Trym.prog 23 #[.int .u64 v, .string s, .int .i64 n] w fun e w' => e = .returned (.string (spellS s v n)) ∧ Below w.heap.size w w' := by
  have hmk := run_make_row' (P := Trym.prog) 22 5 (.int .u8 0) 1 Trym.underlying22 info5 rfl .i64 .i64 n (by omega) (by omega) w
  have hrow0 := World.rowIs_made w (.int .u8 0) n 5
  have hbel0 : Below w.heap.size w (w.alloc (.cells (madeCells #[.int .u8 0] n) 5)) := (Below.refl _ _).alloc (Nat.le_refl _) _
  generalize madeCells #[Value.int .u8 0] n = Z at *
  have HR0 := hide hrow0
  have HB0 := hide hbel0
  clear hrow0 hbel0
  go_enter Trym.func23, Trym.ntmps23
  go_wp2
  go_loopw [0, 9] (fun x i wr => ∃ k : Nat, k ≤ n ∧ i = .int .i64 ((n : Int) - 1 - k) ∧ x = .int .u64 ((v / s.size ^ k : Nat) : Int) ∧ wr.rowIs w.heap.size 5 n (cellAt s v n k) ∧ Below w.heap.size w wr) (fun _ i _ => (intOf i + 1).toNat)
  case atStart => exact ⟨0, Nat.zero_le _, by simp, by simp, HR0.out.congr (fun i hi => by simp [cellAt, hi]), HB0.out⟩
  case round =>
    obtain ⟨k, hk, rfl, rfl, hrow, hbel⟩ := hrel
    have HR := hide hrow
    have HB := hide hbel
    by_cases hlt : k < n
    · obtain ⟨V, hV⟩ : ∃ V, V = v / s.size ^ k := ⟨_, rfl⟩
      have hV64 : V < 18446744073709551616 := by rw [hV]; exact Nat.lt_of_le_of_lt (Nat.div_le_self _ _) hv
      rw [← hV]
      have HV := hide hV
      have hcell := hrow.cell (i := n - 1 - k) (by omega)
      have hfr := hrow.frozen (n - 1 - k)
      have hlt2 := hrow.lt
      have hmod : V % s.size < s.size := Nat.mod_lt _ hs0
      have hmod1 : (V : Int) % (s.size : Int) < (s.size : Int) := Int.emod_lt_of_pos _ (by omega)
      have hmod0 : 0 ≤ (V : Int) % (s.size : Int) := Int.emod_nonneg _ (by omega)
      clear hV hrow hbel
      go_wp2
      go_roundw
      case rel => exact ⟨k + 1, by omega, by go_num, by rw [div_round v V s.size k HV.out hV64], (HR.out.set _ _).congr (cell_round s v n k V hlt HV.out hmod), HB.out.setCell (Nat.le_refl _) _⟩
      case measure => simp [intOf]; omega
    · obtain rfl : k = n := by omega
      have hcv := conv s v k w.heap.size wr hrow
      clear hrow hbel
      go_wp2
      go_ret
      exact ⟨rfl, HB.out⟩
theorem spell13 (v n : Nat) (s : ByteArray) (w : World) (hs0 : 0 < s.size) (hs : s.size ≤ 1048576) (hn : n ≤ 65536) (hv : v < 18446744073709551616) :
    Calls Trym.prog 13 #[.int .u64 v, .string s, .int .i64 n] w fun e w' => e = .returned (.string (spellS s v n)) ∧ Below w.heap.size w w' := by
  go_enter Trym.func13, Trym.ntmps13
  go_wp2_with fail
  refine (spell23 v n s w hs0 hs hn hv).mono ?_
  rintro e w' ⟨rfl, hb⟩
  have HB := hide hb
  clear hb
  go_wp2
  go_ret
  exact ⟨rfl, HB.out⟩

end Go.Proofs.Qxb6600212aMods.SpellWalks
