/-
  No cell of these rows narrows 'for every input' (looked for: loops, veiled, ifaces, maps, wideKeys, modest, calm, conditions, laid).
  DERIVED. THE GIVEN ROWS OF THIS SEAT. 5 by the template 'for every input the law returns true; each argument reads behind the call as it read before'; 0 by the template 'total and deterministic' (their statements: Qxb6600212aModsTotals.lean).
  GIVEN WITH THE SEED: the statements are not yours to turn. If you find one false, say at which input.
  Laid BY PROGRAM, IN A SANDBOX (cutbox-rows.mjs): the forced cells as the released guide's own fill.sh prints them over the translation 6b316e10fe2d2c7a… (all of the seat's roots in one cut). By AI agents, Wed Nov 11 2026. No macro, syntax, notation, axiom, sorry.
-/
import Derived.Test.Qxb6600212aModsChecked
import GoSem.Claim
import GoSem.ClaimJoined
import GoSem.ClaimMapViews
import Derived.JoinedTies
import Derived.KernelRfl
namespace Go.Proofs.Qxb6600212aMods
/- THE CELL 'sum', in the pinned program and in every row, IS THE sha256 OF THE DUMP (.gsa) THAT Qxb6600212aModsProg.lean LOADS. Nothing in Lean hashes anything: it is a label: what it is worth is what the hold of that sum in a sandbox is worth. -/
noncomputable def Trym.pinned : Pinned := { name := "qxb6600212amods", sum := "6b316e10fe2d2c7acf40d378573c6a0e8df86e44373ca19ca0ba373e38988d94", checked := Trym.checked }
namespace Rows
def none {H : Type} : Left H := { results := [], args := [] }

/-- 'zzlaws_root_b1.FnTruncateReadsBackToWindow': WHATEVER THE INPUT: true; the input reads as it did. -/
def fnTruncateReadsBackToWindowSpec : ChangeSpec := { name := "fnTruncateReadsBackToWindow", fn := fun _ => fun
  | [d1, d2] => { results := [.lit (.bool true)], args := [d1, d2] }
  | _ => none }
def fnTruncateReadsBackToWindowRow : OpenClaim := { program := "qxb6600212amods", sum := "6b316e10fe2d2c7acf40d378573c6a0e8df86e44373ca19ca0ba373e38988d94", func := "example.com/coffer/coffer/zzlaws_root_b1.FnTruncateReadsBackToWindow", spec := "fnTruncateReadsBackToWindow", make := .lifted ["publicsums"], apart := false }
def FnTruncateReadsBackToWindowSaid : Prop := fnTruncateReadsBackToWindowRow.holds Trym.pinned (OpenSpec.ofChange fnTruncateReadsBackToWindowSpec)

/-- ITS FALSE NEIGHBOUR: 'it returns false'. Refute it at one input. -/
def fnTruncateReadsBackToWindowWrong : ChangeSpec := { name := "fnTruncateReadsBackToWindow", fn := fun _ => fun
  | [d1, d2] => { results := [.lit (.bool false)], args := [d1, d2] }
  | _ => none }
def FnTruncateReadsBackToWindowWrongFalsely : Prop := fnTruncateReadsBackToWindowRow.holds Trym.pinned (OpenSpec.ofChange fnTruncateReadsBackToWindowWrong)

/-- 'zzlaws_root_b1.FnTruncateLongerKeepsShorterAsHead': WHATEVER THE INPUT: true; the input reads as it did. -/
def fnTruncateLongerKeepsShorterAsHeadSpec : ChangeSpec := { name := "fnTruncateLongerKeepsShorterAsHead", fn := fun _ => fun
  | [d1, d2] => { results := [.lit (.bool true)], args := [d1, d2] }
  | _ => none }
def fnTruncateLongerKeepsShorterAsHeadRow : OpenClaim := { program := "qxb6600212amods", sum := "6b316e10fe2d2c7acf40d378573c6a0e8df86e44373ca19ca0ba373e38988d94", func := "example.com/coffer/coffer/zzlaws_root_b1.FnTruncateLongerKeepsShorterAsHead", spec := "fnTruncateLongerKeepsShorterAsHead", make := .lifted ["publicsums"], apart := false }
def FnTruncateLongerKeepsShorterAsHeadSaid : Prop := fnTruncateLongerKeepsShorterAsHeadRow.holds Trym.pinned (OpenSpec.ofChange fnTruncateLongerKeepsShorterAsHeadSpec)

/-- ITS FALSE NEIGHBOUR: 'it returns false'. Refute it at one input. -/
def fnTruncateLongerKeepsShorterAsHeadWrong : ChangeSpec := { name := "fnTruncateLongerKeepsShorterAsHead", fn := fun _ => fun
  | [d1, d2] => { results := [.lit (.bool false)], args := [d1, d2] }
  | _ => none }
def FnTruncateLongerKeepsShorterAsHeadWrongFalsely : Prop := fnTruncateLongerKeepsShorterAsHeadRow.holds Trym.pinned (OpenSpec.ofChange fnTruncateLongerKeepsShorterAsHeadWrong)

/-- 'zzlaws_root_b1.FnHOTPMatchesRFC4226AppendixD': WHATEVER THE INPUT: true; the input reads as it did. -/
def fnHOTPMatchesRFC4226AppendixDSpec : ChangeSpec := { name := "fnHOTPMatchesRFC4226AppendixD", fn := fun _ => fun
  | [] => { results := [.lit (.bool true)], args := [] }
  | _ => none }
def fnHOTPMatchesRFC4226AppendixDRow : OpenClaim := { program := "qxb6600212amods", sum := "6b316e10fe2d2c7acf40d378573c6a0e8df86e44373ca19ca0ba373e38988d94", func := "example.com/coffer/coffer/zzlaws_root_b1.FnHOTPMatchesRFC4226AppendixD", spec := "fnHOTPMatchesRFC4226AppendixD", make := .lifted ["publicsums"], apart := false }
def FnHOTPMatchesRFC4226AppendixDSaid : Prop := fnHOTPMatchesRFC4226AppendixDRow.holds Trym.pinned (OpenSpec.ofChange fnHOTPMatchesRFC4226AppendixDSpec)

/-- ITS FALSE NEIGHBOUR: 'it returns false'. Refute it at one input. -/
def fnHOTPMatchesRFC4226AppendixDWrong : ChangeSpec := { name := "fnHOTPMatchesRFC4226AppendixD", fn := fun _ => fun
  | [] => { results := [.lit (.bool false)], args := [] }
  | _ => none }
def FnHOTPMatchesRFC4226AppendixDWrongFalsely : Prop := fnHOTPMatchesRFC4226AppendixDRow.holds Trym.pinned (OpenSpec.ofChange fnHOTPMatchesRFC4226AppendixDWrong)

/-- 'zzlaws_root_b1.FnSpellIsTheLastNDigitsOfV': WHATEVER THE INPUT: true; the input reads as it did. -/
def fnSpellIsTheLastNDigitsOfVSpec : ChangeSpec := { name := "fnSpellIsTheLastNDigitsOfV", fn := fun _ => fun
  | [d1, d2, d3] => { results := [.lit (.bool true)], args := [d1, d2, d3] }
  | _ => none }
def fnSpellIsTheLastNDigitsOfVRow : OpenClaim := { program := "qxb6600212amods", sum := "6b316e10fe2d2c7acf40d378573c6a0e8df86e44373ca19ca0ba373e38988d94", func := "example.com/coffer/coffer/zzlaws_root_b1.FnSpellIsTheLastNDigitsOfV", spec := "fnSpellIsTheLastNDigitsOfV", make := .lifted ["publicsums"], apart := false }
def FnSpellIsTheLastNDigitsOfVSaid : Prop := fnSpellIsTheLastNDigitsOfVRow.holds Trym.pinned (OpenSpec.ofChange fnSpellIsTheLastNDigitsOfVSpec)

/-- ITS FALSE NEIGHBOUR: 'it returns false'. Refute it at one input. -/
def fnSpellIsTheLastNDigitsOfVWrong : ChangeSpec := { name := "fnSpellIsTheLastNDigitsOfV", fn := fun _ => fun
  | [d1, d2, d3] => { results := [.lit (.bool false)], args := [d1, d2, d3] }
  | _ => none }
def FnSpellIsTheLastNDigitsOfVWrongFalsely : Prop := fnSpellIsTheLastNDigitsOfVRow.holds Trym.pinned (OpenSpec.ofChange fnSpellIsTheLastNDigitsOfVWrong)

/-- 'zzlaws_root_b1.FnSpellShorterIsSuffixOfLonger': WHATEVER THE INPUT: true; the input reads as it did. -/
def fnSpellShorterIsSuffixOfLongerSpec : ChangeSpec := { name := "fnSpellShorterIsSuffixOfLonger", fn := fun _ => fun
  | [d1, d2, d3, d4] => { results := [.lit (.bool true)], args := [d1, d2, d3, d4] }
  | _ => none }
def fnSpellShorterIsSuffixOfLongerRow : OpenClaim := { program := "qxb6600212amods", sum := "6b316e10fe2d2c7acf40d378573c6a0e8df86e44373ca19ca0ba373e38988d94", func := "example.com/coffer/coffer/zzlaws_root_b1.FnSpellShorterIsSuffixOfLonger", spec := "fnSpellShorterIsSuffixOfLonger", make := .lifted ["publicsums"], apart := false }
def FnSpellShorterIsSuffixOfLongerSaid : Prop := fnSpellShorterIsSuffixOfLongerRow.holds Trym.pinned (OpenSpec.ofChange fnSpellShorterIsSuffixOfLongerSpec)

/-- ITS FALSE NEIGHBOUR: 'it returns false'. Refute it at one input. -/
def fnSpellShorterIsSuffixOfLongerWrong : ChangeSpec := { name := "fnSpellShorterIsSuffixOfLonger", fn := fun _ => fun
  | [d1, d2, d3, d4] => { results := [.lit (.bool false)], args := [d1, d2, d3, d4] }
  | _ => none }
def FnSpellShorterIsSuffixOfLongerWrongFalsely : Prop := fnSpellShorterIsSuffixOfLongerRow.holds Trym.pinned (OpenSpec.ofChange fnSpellShorterIsSuffixOfLongerWrong)

end Rows
end Go.Proofs.Qxb6600212aMods
