/-
  THE PROOF OF 'Rows.FnHOTPMatchesRFC4226AppendixDSaid', out of the seed's shell: the walk is filled; the row's step is the shell's own, with 'Below' in the place of 'Grown'. By an AI agent.
-/
import Derived.Test.Qxb6600212aModsRows
import Derived.WalkKit
import Derived.ProofKit
import Derived.OpenShut
import Derived.ShutString
import Derived.ChangeOld
import Derived.Below
import Derived.Test.Qxb6600212aModsHotpWalks
namespace Go.Proofs.Qxb6600212aMods.fnHOTPMatchesRFC4226AppendixD
open Go.ChangeShapes Go.WideShapes Go.ChangeAt Go.RowKit
open Go.ChangeMaps (open_string shut_string)
set_option linter.unusedVariables false      -- a walk need not use every 'w<i>' (that an integer argument fits its kind)

theorem own : ownKnob Trym.prog.godebug = none := by kernel_rfl

open Go.Proofs.Qxb6600212aMods.Trunc Go.Proofs.Qxb6600212aMods.TruncWalks Go.Proofs.Qxb6600212aMods.Spell Go.Proofs.Qxb6600212aMods.SpellWalks Go.Proofs.Qxb6600212aMods.HotpWalks

theorem truncN_lt (c : Nat) : truncN c < 18446744073709551616 := by
  unfold truncN
  split
  · omega
  · split
    · omega
    · split <;> omega

set_option maxHeartbeats 400000 in
theorem walk (w : World) :
    Calls Trym.prog 5 #[] w fun e w' => e = .returned (.bool true) ∧ Below w.heap.size w w' := by
  go_enter Trym.func5, Trym.ntmps5
  go_wp2_with fail
  go_loopw [1] (fun i wr => ∃ k : Nat, k ≤ 4 ∧ i = .int .i64 k ∧ Below w.heap.size w wr) (fun i _ => 4 - (intOf i).toNat)
  case atStart => exact ⟨0, Nat.zero_le _, rfl, Below.refl _ _⟩
  case round =>
    obtain ⟨k, hk, rfl, hbel⟩ := hrel
    have HB := hide hbel
    clear hbel
    by_cases hlt : k < 4
    · go_wp2_with fail
      refine (hmac11 k (hexS k) wr hlt rfl).mono ?_
      rintro e w1 ⟨rfl, hrow, hb1⟩
      have HB1 : Hid (Below w.heap.size w w1) := HB.out.trans (hb1.mono HB.out.size)
      have hT := trunc9 wr.heap.size 0 20 20 4 (mac (hexS k)) w1 (by omega) (by omega) (by omega) (by omega) (by omega) hrow
      rw [rfc_trunc k hlt, show ((4 : Nat) : Int) = 4 from rfl] at hT
      have HT := hide hT
      clear hb1 hrow hT
      go_wp2_with fail
      refine (Calls.mono HT.out ?_)
      rintro e w2 ⟨rfl, h2⟩
      obtain rfl := h2.symm
      go_wp2_with fail
      refine (trunc12 k w1 hlt).mono ?_
      rintro e w2 ⟨rfl, h2⟩
      obtain rfl := h2.symm
      have hS := spell13 (truncN k) 6 digitsS w1 (by decide) (by decide) (by omega) (truncN_lt k)
      rw [rfc_hotp k hlt, show ((6 : Nat) : Int) = 6 from rfl] at hS
      have HS := hide hS
      clear hS
      go_wp2_with fail
      refine (Calls.mono HS.out ?_)
      rintro e w3 ⟨rfl, hb3⟩
      have HB3 : Hid (Below w.heap.size w w3) := HB1.out.trans (hb3.mono HB1.out.size)
      clear hb3
      go_wp2_with fail
      refine (hotp14 k w3 hlt).mono ?_
      rintro e w4 ⟨rfl, h4⟩
      obtain rfl := h4.symm
      generalize hotpS k = S at *
      go_wp2_with fail
      go_roundw
      case rel => exact ⟨k + 1, by omega, by go_num, HB3.out⟩
      case measure => simp [intOf]; omega
    · go_wp2_with fail
      go_ret
      exact ⟨rfl, HB.out⟩

/-! ### THE ROW's STEP: WRITTEN OUT: LEAVE IT -/
set_option maxRecDepth 100000 in
theorem lifted (os : Os) (started : os.Started) (H : Type) (enc : TypeId × Value → H) :
    ReturnsInHanded {} Trym.checked os 5 .any (Rows.fnHOTPMatchesRFC4226AppendixDSpec.pre6 enc Trym.prog Trym.f5 Rows.fnHOTPMatchesRFC4226AppendixDRow.domain false) (Rows.fnHOTPMatchesRFC4226AppendixDSpec.post enc Trym.prog Trym.f5 false true false false) := by
  refine returnsInHanded_of_change (C := Trym.checked) own started (by kernel_rfl) Trym.func5
    (ChangeSpec.witness6 (enc := enc) (C := Trym.checked) false ⟨#[], #[], []⟩ 8 (by kernel_rfl) (by kernel_rfl) (by kernel_rfl) (by kernel_rfl)) ?_
  intro W base args ds gs before hval0 hW hcnd _
  have hval : ∀ (j : Nat) t v, Trym.f5.params[j]? = some t → args[j]? = some v → Value.okWide Trym.prog W .any base t v := hval0
  have hW' := hW
  obtain ⟨p, q, hA0, hV, rfl, hfz, hnd⟩ := hW
  have hA : DataW.TrodAll enc Trym.prog W 0 (fun _ => true) true Trym.f5.params.toList args.toList ds p := hA0
  rw [Trym.params5] at hA hval
  obtain ⟨rfl, rfl, rfl⟩ := trodAll_none hA
  obtain ⟨rfl, rfl⟩ := trodVars_none hV
  clear hA0 hval0
  refine (walk  W).mono fun e W' ⟨he, bel⟩ => ?_
  subst he
  exact ⟨_, rfl, _, _, _, [], _, [], hW', trodAll_mk1 (shut_bool Trym.underlying4 _), rfl, rfl, bel.frame _, fun h => by cases h⟩

theorem over : Rows.fnHOTPMatchesRFC4226AppendixDRow.holds Trym.pinned (OpenSpec.ofChange Rows.fnHOTPMatchesRFC4226AppendixDSpec) :=
  OpenClaim.holds_of_wide 5 Trym.f5 rfl rfl rfl rfl rfl rfl rfl ⟨rfl, rfl, rfl, rfl, rfl⟩ rfl rfl rfl rfl rfl (by kernel_rfl) Trym.func5 (by kernel_rfl)
    (of_decide_eq_true (by kernel_rfl)) (by unfold Func.isWrapper; first | (rw [if_pos (by decide +kernel)]; kernel_rfl) | (rw [if_neg (by decide +kernel)]; exact ⟨rfl, rfl⟩))
    (fun os started H enc _ => lifted os started H enc)

/-- ████ THE STATEMENT ████ -/
theorem proved : Rows.FnHOTPMatchesRFC4226AppendixDSaid :=
  over
#print axioms proved
end Go.Proofs.Qxb6600212aMods.fnHOTPMatchesRFC4226AppendixD
