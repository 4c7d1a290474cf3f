/-
  THE PROOF OF 'Rows.FnBoolArrayRoundTripSaid'. The row's step is after the seed's shells (a slice of truth values and a string in the place of a slice of bytes and an int). By an AI agent.
-/
import Derived.Test.Qxb6600601aModsRows
import Derived.WalkKit
import Derived.ProofKit
import Derived.OpenShut
import Derived.ShutString
import Derived.ChangeOld
import Derived.Below
import Derived.Test.Qxb6600601aModsBoolWalks
namespace Go.Proofs.Qxb6600601aMods.fnBoolArrayRoundTrip
open Go.ChangeShapes Go.WideShapes Go.ChangeAt Go.RowKit
open Go.ChangeMaps (open_string shut_string)
set_option linter.unusedVariables false

theorem own : ownKnob Trym.prog.godebug = none := by kernel_rfl
theorem laidOut : laidOutB Trym.prog = true := by kernel_rfl

open Go.Proofs.Qxb6600601aMods.BoolParts Go.Proofs.Qxb6600601aMods.BoolWalks

/-- WHAT THE WALK IS TOLD OF A SLICE OF TRUTH VALUES THAT CAME IN: it is nil; or it leads to a row of 'cap' cells. -/
def IsRow (w : World) (a : Option Addr) (len cap : Nat) (V : Nat → Bool) : Prop :=
  (a = none ∧ len = 0 ∧ cap = 0) ∨ ∃ x, a = some x ∧ len ≤ cap ∧ cap ≤ maxLen ∧ ∀ i, i < cap → w.cell? (x.add i) = some (.bool (V i))

/-! ### STEP 1: THE WALK: the Go text returns true, AND WRITES NOTHING THAT WAS THERE. -/
theorem walk (a0 : Option Addr) (len0 cap0 : Nat) (V : Nat → Bool) (a1 : ByteArray) (w : World) (w0 : IsRow w a0 len0 cap0 V) (w1 : a1.size ≤ maxLen) :
    Calls Trym.prog 6 #[.slice a0 len0 cap0, .string a1] w fun e w' => e = .returned (.bool true) ∧ Below w.heap.size w w' := by
  have hb : IsBools w a0 len0 V ∧ len0 ≤ maxLen := by
    rcases w0 with ⟨h1, h2, h3⟩ | ⟨x, h1, hl, hm, hc⟩
    · exact ⟨.inl ⟨h1, h2⟩, by omega⟩
    · exact ⟨.inr ⟨x, h1, fun i hi => hc i (by omega)⟩, by omega⟩
  obtain ⟨hv, hl⟩ := hb
  unfold maxLen at hl w1
  by_cases hE : 4096 < len0 ∨ 4096 < a1.size
  · exact BoolParts.early a0 len0 cap0 a1 w hl w1 hE
  · have hb2 : len0 * (6 + 2 * a1.size) ≤ 4096 * 8198 := Nat.mul_le_mul (by omega) (by omega)
    by_cases hF : 1048576 < 2 + a1.size + len0 * (6 + 2 * a1.size)
    · exact early2 a0 len0 cap0 (len0 * (6 + 2 * a1.size)) a1 w (by omega) (by omega) (mul_cast len0 a1.size _ rfl) (by omega) (by omega)
    · exact whole a0 len0 cap0 (len0 * (6 + 2 * a1.size)) a1 V w (by omega) (by omega) rfl (by omega) hv

/-! ### THE ROW's STEP: WRITTEN OUT: LEAVE IT -/
set_option maxRecDepth 100000 in
theorem lifted (os : Os) (started : os.Started) (H : Type) (enc : TypeId × Value → H) :
    ReturnsInHanded {} Trym.checked os 6 .any (Rows.fnBoolArrayRoundTripSpec.pre6 enc Trym.prog Trym.f6 Rows.fnBoolArrayRoundTripRow.domain false) (Rows.fnBoolArrayRoundTripSpec.post enc Trym.prog Trym.f6 false true false false) := by
  refine returnsInHanded_of_change (C := Trym.checked) own started (by kernel_rfl) Trym.func6
    (ChangeSpec.witness6 (enc := enc) (C := Trym.checked) false ⟨#[], #[.slice none 0 0, .string ByteArray.empty], []⟩ 8 (by kernel_rfl) (by kernel_rfl) (by kernel_rfl) (by kernel_rfl)) ?_
  intro W base args ds gs before hval0 hW hcnd _
  have hval : ∀ (j : Nat) t v, Trym.f6.params[j]? = some t → args[j]? = some v → Value.okWide Trym.prog W .any base t v := hval0
  have hW' := hW
  obtain ⟨p, q, hA0, hV, rfl, hfz, hnd⟩ := hW
  have hA : DataW.TrodAll enc Trym.prog W 0 (fun _ => true) true Trym.f6.params.toList args.toList ds p := hA0
  rw [Trym.params6] at hA hval
  obtain ⟨v0, vs0, d0, ds0, p0, q0, hargs, rfl, rfl, h0, r0⟩ := trodAll_cons hA
  obtain ⟨v1, vs1, d1, ds1, p1, q1, rfl, rfl, rfl, h1, r1⟩ := trodAll_cons r0
  obtain ⟨rfl, rfl, rfl⟩ := trodAll_nil r1
  obtain rfl : args = #[v0, v1] := by cases args; simp_all
  obtain ⟨rfl, rfl⟩ := trodVars_none hV
  obtain ⟨a0, len0, cap0, rfl⟩ := okWide_slice Trym.underlying36 (hval 0 36 v0 rfl rfl)
  have k0 := h0
  have lt0 : ∀ x ∈ p0, x.block < W.heap.size := by obtain ⟨m, hm⟩ := k0; exact DataW.trod_lt m _ _ _ hm
  obtain ⟨V, w0⟩ : ∃ V, IsRow W a0 len0 cap0 V := by
    obtain ⟨fuel, hf⟩ := h0
    rcases Go.Deep.open_bools Trym.underlying36 Trym.underlying4 (by kernel_rfl) hf with ⟨hcs, _⟩ | ⟨x, l, c, B, hcs, _, hl, hm, _, hcell⟩
    · simp [Value.cells] at hcs
      obtain ⟨rfl, rfl, rfl⟩ := hcs
      exact ⟨fun _ => false, .inl ⟨rfl, rfl, rfl⟩⟩
    · simp [Value.cells] at hcs
      obtain ⟨rfl, rfl, rfl⟩ := hcs
      exact ⟨B, .inr ⟨_, rfl, hl, hm, hcell⟩⟩
  obtain ⟨a1, rfl, rfl, rfl, w1⟩ := open_string Trym.underlying9 (hval 1 9 v1 rfl rfl) h1
  clear hA0 hval0
  refine (walk a0 len0 cap0 V a1 W w0 w1).mono fun e W' ⟨he, bel⟩ => ?_
  subst he
  exact ⟨_, rfl, _, _, _, [], _, [], hW', trodAll_mk1 (shut_bool Trym.underlying4 _), (trodAll_cons_mk (Below.trod laidOut (by kernel_rfl) (of_decide_eq_true (by kernel_rfl)) k0 bel lt0) (trodAll_cons_mk (shut_string Trym.underlying9 w1) trodAll_mk0)), rfl, bel.frame _, fun h => by cases h⟩

theorem over : Rows.fnBoolArrayRoundTripRow.holds Trym.pinned (OpenSpec.ofChange Rows.fnBoolArrayRoundTripSpec) :=
  OpenClaim.holds_of_wide 6 Trym.f6 rfl rfl rfl rfl rfl rfl rfl ⟨rfl, rfl, rfl, rfl, rfl⟩ rfl rfl rfl rfl rfl (by kernel_rfl) Trym.func6 (by kernel_rfl)
    (of_decide_eq_true (by kernel_rfl)) (by unfold Func.isWrapper; first | (rw [if_pos (by decide +kernel)]; kernel_rfl) | (rw [if_neg (by decide +kernel)]; exact ⟨rfl, rfl⟩))
    (fun os started H enc _ => lifted os started H enc)

/-- ████ THE STATEMENT ████ -/
theorem proved : Rows.FnBoolArrayRoundTripSaid := over
#print axioms proved
end Go.Proofs.Qxb6600601aMods.fnBoolArrayRoundTrip
