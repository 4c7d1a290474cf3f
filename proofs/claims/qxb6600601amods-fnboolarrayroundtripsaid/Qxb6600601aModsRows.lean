/-
  No cell of these rows narrows 'for every input' (looked for: loops, veiled, ifaces, maps, wideKeys, modest, calm, conditions, laid).
  DERIVED. THE GIVEN ROWS OF THIS SEAT. 4 by the template 'for every input the law returns true; each argument reads behind the call as it read before'; 0 by the template 'total and deterministic' (their statements: Qxb6600601aModsTotals.lean).
  GIVEN WITH THE SEED: the statements are not yours to turn. If you find one false, say at which input.
  Laid BY PROGRAM, IN A SANDBOX (cutbox-rows.mjs): the forced cells as the released guide's own fill.sh prints them over the translation 26a249729cec1324… (all of the seat's roots in one cut). By AI agents, Wed Nov 11 2026. No macro, syntax, notation, axiom, sorry.
-/
import Derived.Test.Qxb6600601aModsChecked
import GoSem.Claim
import GoSem.ClaimJoined
import GoSem.ClaimMapViews
import Derived.JoinedTies
import Derived.KernelRfl
namespace Go.Proofs.Qxb6600601aMods
/- THE CELL 'sum', in the pinned program and in every row, IS THE sha256 OF THE DUMP (.gsa) THAT Qxb6600601aModsProg.lean LOADS. Nothing in Lean hashes anything: it is a label: what it is worth is what the hold of that sum in a sandbox is worth. -/
noncomputable def Trym.pinned : Pinned := { name := "qxb6600601amods", sum := "26a249729cec1324f3cc5a9f1d2734f149e45b34362b4d21f3f07183845b5c1a", checked := Trym.checked }
namespace Rows
def none {H : Type} : Left H := { results := [], args := [] }

/-- 'zzlaws_internal_wire_b1.FnHex4Exact': WHATEVER THE INPUT: true; the input reads as it did. -/
def fnHex4ExactSpec : ChangeSpec := { name := "fnHex4Exact", fn := fun _ => fun
  | [d] => { results := [.lit (.bool true)], args := [d] }
  | _ => none }
def fnHex4ExactRow : OpenClaim := { program := "qxb6600601amods", sum := "26a249729cec1324f3cc5a9f1d2734f149e45b34362b4d21f3f07183845b5c1a", func := "example.com/portcullis/portcullis/zzlaws_internal_wire_b1.FnHex4Exact", spec := "fnHex4Exact", make := .lifted ["publicsums"], apart := false }
def FnHex4ExactSaid : Prop := fnHex4ExactRow.holds Trym.pinned (OpenSpec.ofChange fnHex4ExactSpec)

/-- ITS FALSE NEIGHBOUR: 'it returns false'. Refute it at one input. -/
def fnHex4ExactWrong : ChangeSpec := { name := "fnHex4Exact", fn := fun _ => fun
  | [d] => { results := [.lit (.bool false)], args := [d] }
  | _ => none }
def FnHex4ExactWrongFalsely : Prop := fnHex4ExactRow.holds Trym.pinned (OpenSpec.ofChange fnHex4ExactWrong)

/-- 'zzlaws_internal_wire_b1.FnHex4RoundTrip': WHATEVER THE INPUT: true; the input reads as it did. -/
def fnHex4RoundTripSpec : ChangeSpec := { name := "fnHex4RoundTrip", fn := fun _ => fun
  | [d1, d2, d3] => { results := [.lit (.bool true)], args := [d1, d2, d3] }
  | _ => none }
def fnHex4RoundTripRow : OpenClaim := { program := "qxb6600601amods", sum := "26a249729cec1324f3cc5a9f1d2734f149e45b34362b4d21f3f07183845b5c1a", func := "example.com/portcullis/portcullis/zzlaws_internal_wire_b1.FnHex4RoundTrip", spec := "fnHex4RoundTrip", make := .lifted ["publicsums"], apart := false }
def FnHex4RoundTripSaid : Prop := fnHex4RoundTripRow.holds Trym.pinned (OpenSpec.ofChange fnHex4RoundTripSpec)

/-- ITS FALSE NEIGHBOUR: 'it returns false'. Refute it at one input. -/
def fnHex4RoundTripWrong : ChangeSpec := { name := "fnHex4RoundTrip", fn := fun _ => fun
  | [d1, d2, d3] => { results := [.lit (.bool false)], args := [d1, d2, d3] }
  | _ => none }
def FnHex4RoundTripWrongFalsely : Prop := fnHex4RoundTripRow.holds Trym.pinned (OpenSpec.ofChange fnHex4RoundTripWrong)

/-- 'zzlaws_internal_wire_b1.FnFailedReaderReadsNothing': WHATEVER THE INPUT: true; the input reads as it did. -/
def fnFailedReaderReadsNothingSpec : ChangeSpec := { name := "fnFailedReaderReadsNothing", fn := fun _ => fun
  | [d1, d2, d3, d4] => { results := [.lit (.bool true)], args := [d1, d2, d3, d4] }
  | _ => none }
def fnFailedReaderReadsNothingRow : OpenClaim := { program := "qxb6600601amods", sum := "26a249729cec1324f3cc5a9f1d2734f149e45b34362b4d21f3f07183845b5c1a", func := "example.com/portcullis/portcullis/zzlaws_internal_wire_b1.FnFailedReaderReadsNothing", spec := "fnFailedReaderReadsNothing", make := .lifted ["publicsums"], apart := false }
def FnFailedReaderReadsNothingSaid : Prop := fnFailedReaderReadsNothingRow.holds Trym.pinned (OpenSpec.ofChange fnFailedReaderReadsNothingSpec)

/-- ITS FALSE NEIGHBOUR: 'it returns false'. Refute it at one input. -/
def fnFailedReaderReadsNothingWrong : ChangeSpec := { name := "fnFailedReaderReadsNothing", fn := fun _ => fun
  | [d1, d2, d3, d4] => { results := [.lit (.bool false)], args := [d1, d2, d3, d4] }
  | _ => none }
def FnFailedReaderReadsNothingWrongFalsely : Prop := fnFailedReaderReadsNothingRow.holds Trym.pinned (OpenSpec.ofChange fnFailedReaderReadsNothingWrong)

/-- 'zzlaws_internal_wire_b1.FnBoolArrayRoundTrip': WHATEVER THE INPUT: true; the input reads as it did. -/
def fnBoolArrayRoundTripSpec : ChangeSpec := { name := "fnBoolArrayRoundTrip", fn := fun _ => fun
  | [d1, d2] => { results := [.lit (.bool true)], args := [d1, d2] }
  | _ => none }
def fnBoolArrayRoundTripRow : OpenClaim := { program := "qxb6600601amods", sum := "26a249729cec1324f3cc5a9f1d2734f149e45b34362b4d21f3f07183845b5c1a", func := "example.com/portcullis/portcullis/zzlaws_internal_wire_b1.FnBoolArrayRoundTrip", spec := "fnBoolArrayRoundTrip", make := .lifted ["publicsums"], apart := false }
def FnBoolArrayRoundTripSaid : Prop := fnBoolArrayRoundTripRow.holds Trym.pinned (OpenSpec.ofChange fnBoolArrayRoundTripSpec)

/-- ITS FALSE NEIGHBOUR: 'it returns false'. Refute it at one input. -/
def fnBoolArrayRoundTripWrong : ChangeSpec := { name := "fnBoolArrayRoundTrip", fn := fun _ => fun
  | [d1, d2] => { results := [.lit (.bool false)], args := [d1, d2] }
  | _ => none }
def FnBoolArrayRoundTripWrongFalsely : Prop := fnBoolArrayRoundTripRow.holds Trym.pinned (OpenSpec.ofChange fnBoolArrayRoundTripWrong)

end Rows
end Go.Proofs.Qxb6600601aMods
