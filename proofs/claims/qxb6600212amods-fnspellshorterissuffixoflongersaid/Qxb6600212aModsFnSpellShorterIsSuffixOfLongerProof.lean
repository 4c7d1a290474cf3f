/-
  THE PROOF OF 'Rows.FnSpellShorterIsSuffixOfLongerSaid', out of the seed's shell: the walk is filled; the row's step is the shell's own, with 'Below' in the place of 'Grown'. By an AI agent.
-/
import Derived.Test.Qxb6600212aModsRows
import Derived.WalkKit
import Derived.ProofKit
import Derived.OpenShut
import Derived.ShutString
import Derived.ChangeOld
import Derived.Below
import Derived.Test.Qxb6600212aModsSpellWalks
import Derived.BigQuiet
import Derived.WalkSmall
namespace Go.Proofs.Qxb6600212aMods.fnSpellShorterIsSuffixOfLonger
open Go.ChangeShapes Go.WideShapes Go.ChangeAt Go.RowKit
open Go.ChangeMaps (open_string shut_string)
set_option linter.unusedVariables false      -- a walk need not use every 'w<i>' (that an integer argument fits its kind)

theorem own : ownKnob Trym.prog.godebug = none := by kernel_rfl

open Go.Proofs.Qxb6600212aMods.Spell Go.Proofs.Qxb6600212aMods.SpellWalks

theorem bytes19 (a0 : Int) (s : ByteArray) (a2 a3 : Int) (w : World) (hs : s.size ≤ 1048576) :
    Calls Trym.prog 19 #[.int .u64 a0, .string s, .int .i64 a2, .int .i64 a3] w fun e w' => e = .returned (.bool true) ∧ w' = w := by
  go_enter Trym.func19, Trym.ntmps19
  go_wp2
  go_ret
  exact ⟨rfl, rfl⟩

/-- The ways on which the law returns ahead of its work. -/
theorem early (a0 : Int) (s : ByteArray) (a2 a3 : Int) (w : World) (hm : s.size ≤ 9223372036854775807)
    (h : 1048576 < s.size ∨ a2 < 0 ∨ a3 < a2 ∨ 65536 < a3 ∨ s.size = 0) :
    Calls Trym.prog 7 #[.int .u64 a0, .string s, .int .i64 a2, .int .i64 a3] w fun e w' => e = .returned (.bool true) ∧ Below w.heap.size w w' := by
  by_cases g1 : (1048576 : Int) < (s.size : Int)
  · go_enter Trym.func7, Trym.ntmps7
    go_wp2
    go_ret
    exact ⟨rfl, Below.refl _ _⟩
  · have g1' : s.size ≤ 1048576 := by omega
    by_cases g2 : a2 < 0
    · go_enter Trym.func7, Trym.ntmps7
      go_wp2_with (go_at_call 19; refine (bytes19 _ _ _ _ _ g1').mono ?_; rintro e w8 ⟨rfl, h8⟩; obtain rfl := h8.symm)
      go_ret
      exact ⟨rfl, Below.refl _ _⟩
    · by_cases g3 : a3 < a2
      · go_enter Trym.func7, Trym.ntmps7
        go_wp2_with (go_at_call 19; refine (bytes19 _ _ _ _ _ g1').mono ?_; rintro e w8 ⟨rfl, h8⟩; obtain rfl := h8.symm)
        go_ret
        exact ⟨rfl, Below.refl _ _⟩
      · by_cases g4 : 65536 < a3
        · go_enter Trym.func7, Trym.ntmps7
          go_wp2_with (go_at_call 19; refine (bytes19 _ _ _ _ _ g1').mono ?_; rintro e w8 ⟨rfl, h8⟩; obtain rfl := h8.symm)
          go_ret
          exact ⟨rfl, Below.refl _ _⟩
        · have g5 : ((s.size : Int) == 0) = true := beq_iff_eq.2 (by omega)
          go_enter Trym.func7, Trym.ntmps7
          go_wp2_with (go_at_call 19; refine (bytes19 _ _ _ _ _ g1').mono ?_; rintro e w8 ⟨rfl, h8⟩; obtain rfl := h8.symm)
          go_ret
          exact ⟨rfl, Below.refl _ _⟩

set_option maxHeartbeats 400000 in
theorem whole (v n m : Nat) (s : ByteArray) (w : World) (hs0 : 0 < s.size) (hs : s.size ≤ 1048576) (hnm : n ≤ m) (hm : m ≤ 65536) (hv : v < 18446744073709551616) :
    Calls Trym.prog 7 #[.int .u64 v, .string s, .int .i64 n, .int .i64 m] w fun e w' => e = .returned (.bool true) ∧ Below w.heap.size w w' := by
  have g5 : ((s.size : Int) == 0) = false := beq_eq_false_iff_ne.2 (by omega)
  go_enter Trym.func7, Trym.ntmps7
  go_wp2_with (go_at_call 19; refine (bytes19 _ _ _ _ _ hs).mono ?_; rintro e w8 ⟨rfl, h8⟩; obtain rfl := h8.symm)
  refine (spell13 v m s w hs0 hs hm hv).mono ?_
  rintro e w1 ⟨rfl, hb1⟩
  have HB1 := hide hb1
  clear hb1
  go_wp2_with fail
  refine (spell13 v n s w1 hs0 hs (by omega) hv).mono ?_
  rintro e w2 ⟨rfl, hb2⟩
  have HB2 := hide hb2
  clear hb2
  obtain ⟨A, hA⟩ : ∃ A, A = spellS s v m := ⟨_, rfl⟩
  obtain ⟨B, hB⟩ : ∃ B, B = spellS s v n := ⟨_, rfl⟩
  rw [← hA, ← hB]
  have hAs : A.size = m := by rw [hA]; exact spellS_size s v m
  have hBs : B.size = n := by rw [hB]; exact spellS_size s v n
  have HA := hide hA
  have HB := hide hB
  clear hA hB
  go_wp2
  go_loopw [11] (fun i wr => ∃ k : Nat, k ≤ n ∧ i = .int .i64 k ∧ Below w.heap.size w wr) (fun i _ => n - (intOf i).toNat)
  case atStart => exact ⟨0, Nat.zero_le _, rfl, HB1.out.trans (HB2.out.mono HB1.out.size)⟩
  case round =>
    obtain ⟨k, hk, rfl, hbel⟩ := hrel
    have HBr := hide hbel
    clear hbel
    by_cases hlt : k < n
    · have hi1 : m - n + k < A.size := by omega
      have hi2 : k < B.size := by omega
      have heq : A[m - n + k] = B[k] := by
        have e1 : at0 A (m - n + k) = chr s v m (m - n + k) := by rw [HA.out]; exact spellS_at s v m _ (by omega)
        have e2 : at0 B k = chr s v n k := by rw [HB.out]; exact spellS_at s v n _ (by omega)
        rw [at0_get, at0_get, e1, e2]
        exact chr_suffix s v n m k hnm hlt
      have hI0 : 0 ≤ (m : Int) - (n : Int) + (k : Int) := by omega
      have hI1 : (m : Int) - (n : Int) + (k : Int) < (m : Int) := by omega
      have hI2 : (k : Int) < (n : Int) := by omega
      go_wp2
      go_quiet (fail)
      go_wp2
      go_roundw
      case rel => exact ⟨k + 1, by omega, by go_num, below_drewN HBr.out _⟩
      case measure => simp [intOf]; omega
    · go_wp2
      go_ret
      exact ⟨rfl, HBr.out⟩

theorem walk (a0 : Int) (a1 : ByteArray) (a2 : Int) (a3 : Int) (w0 : (Lit.int .u64 a0).wf = true) (w1 : a1.size ≤ maxLen) (w2 : (Lit.int .i64 a2).wf = true) (w3 : (Lit.int .i64 a3).wf = true) (w : World) :
    Calls Trym.prog 7 #[.int .u64 a0, .string a1, .int .i64 a2, .int .i64 a3] w fun e w' => e = .returned (.bool true) ∧ Below w.heap.size w w' := by
  have b0 := bounds_u64 w0
  unfold maxLen at w1
  by_cases hE : 1048576 < a1.size ∨ a2 < 0 ∨ a3 < a2 ∨ 65536 < a3 ∨ a1.size = 0
  · exact early a0 a1 a2 a3 w w1 hE
  · obtain ⟨v, rfl⟩ := Int.eq_ofNat_of_zero_le b0.1
    obtain ⟨n, rfl⟩ := Int.eq_ofNat_of_zero_le (show 0 ≤ a2 by omega)
    obtain ⟨m, rfl⟩ := Int.eq_ofNat_of_zero_le (show 0 ≤ a3 by omega)
    exact whole v n m a1 w (by omega) (by omega) (by omega) (by omega) (by omega)

/-! ### THE ROW's STEP: WRITTEN OUT: LEAVE IT -/
set_option maxRecDepth 100000 in
theorem lifted (os : Os) (started : os.Started) (H : Type) (enc : TypeId × Value → H) :
    ReturnsInHanded {} Trym.checked os 7 .any (Rows.fnSpellShorterIsSuffixOfLongerSpec.pre6 enc Trym.prog Trym.f7 Rows.fnSpellShorterIsSuffixOfLongerRow.domain false) (Rows.fnSpellShorterIsSuffixOfLongerSpec.post enc Trym.prog Trym.f7 false true false false) := by
  refine returnsInHanded_of_change (C := Trym.checked) own started (by kernel_rfl) Trym.func7
    (ChangeSpec.witness6 (enc := enc) (C := Trym.checked) false ⟨#[], #[.int .u64 0, .string ByteArray.empty, .int .i64 0, .int .i64 0], []⟩ 8 (by kernel_rfl) (by kernel_rfl) (by kernel_rfl) (by kernel_rfl)) ?_
  intro W base args ds gs before hval0 hW hcnd _
  have hval : ∀ (j : Nat) t v, Trym.f7.params[j]? = some t → args[j]? = some v → Value.okWide Trym.prog W .any base t v := hval0
  have hW' := hW
  obtain ⟨p, q, hA0, hV, rfl, hfz, hnd⟩ := hW
  have hA : DataW.TrodAll enc Trym.prog W 0 (fun _ => true) true Trym.f7.params.toList args.toList ds p := hA0
  rw [Trym.params7] at hA hval
  obtain ⟨v0, vs0, d0, ds0, p0, q0, hargs, rfl, rfl, h0, r0⟩ := trodAll_cons hA
  obtain ⟨v1, vs1, d1, ds1, p1, q1, rfl, rfl, rfl, h1, r1⟩ := trodAll_cons r0
  obtain ⟨v2, vs2, d2, ds2, p2, q2, rfl, rfl, rfl, h2, r2⟩ := trodAll_cons r1
  obtain ⟨v3, vs3, d3, ds3, p3, q3, rfl, rfl, rfl, h3, r3⟩ := trodAll_cons r2
  obtain ⟨rfl, rfl, rfl⟩ := trodAll_nil r3
  obtain rfl : args = #[v0, v1, v2, v3] := by cases args; simp_all
  obtain ⟨rfl, rfl⟩ := trodVars_none hV
  obtain ⟨a0, rfl, rfl, rfl, w0⟩ := open_int Trym.underlying24 (hval 0 24 v0 rfl rfl) h0
  obtain ⟨a1, rfl, rfl, rfl, w1⟩ := open_string Trym.underlying9 (hval 1 9 v1 rfl rfl) h1
  obtain ⟨a2, rfl, rfl, rfl, w2⟩ := open_int Trym.underlying3 (hval 2 3 v2 rfl rfl) h2
  obtain ⟨a3, rfl, rfl, rfl, w3⟩ := open_int Trym.underlying3 (hval 3 3 v3 rfl rfl) h3
  clear hA0 hval0
  refine (walk a0 a1 a2 a3 w0 w1 w2 w3 W).mono fun e W' ⟨he, bel⟩ => ?_
  subst he
  exact ⟨_, rfl, _, _, _, [], _, [], hW', trodAll_mk1 (shut_bool Trym.underlying4 _), (trodAll_cons_mk (shut_int Trym.underlying24 w0) (trodAll_cons_mk (shut_string Trym.underlying9 w1) (trodAll_cons_mk (shut_int Trym.underlying3 w2) (trodAll_cons_mk (shut_int Trym.underlying3 w3) trodAll_mk0)))), rfl, bel.frame _, fun h => by cases h⟩

theorem over : Rows.fnSpellShorterIsSuffixOfLongerRow.holds Trym.pinned (OpenSpec.ofChange Rows.fnSpellShorterIsSuffixOfLongerSpec) :=
  OpenClaim.holds_of_wide 7 Trym.f7 rfl rfl rfl rfl rfl rfl rfl ⟨rfl, rfl, rfl, rfl, rfl⟩ rfl rfl rfl rfl rfl (by kernel_rfl) Trym.func7 (by kernel_rfl)
    (of_decide_eq_true (by kernel_rfl)) (by unfold Func.isWrapper; first | (rw [if_pos (by decide +kernel)]; kernel_rfl) | (rw [if_neg (by decide +kernel)]; exact ⟨rfl, rfl⟩))
    (fun os started H enc _ => lifted os started H enc)

/-- ████ THE STATEMENT ████ -/
theorem proved : Rows.FnSpellShorterIsSuffixOfLongerSaid :=
  over
#print axioms proved
end Go.Proofs.Qxb6600212aMods.fnSpellShorterIsSuffixOfLonger
