/-
  THE PROOF OF 'Rows.FnSpellIsTheLastNDigitsOfVSaid', out of the seed's shell: the walk is filled; the row's step is the shell's own, with 'Below' in the place of 'Grown'. By an AI agent.
-/
import Derived.Test.Qxb6600212aModsRows
import Derived.WalkKit
import Derived.ProofKit
import Derived.OpenShut
import Derived.ShutString
import Derived.ChangeOld
import Derived.Below
import Derived.Test.Qxb6600212aModsDigitsWalks
namespace Go.Proofs.Qxb6600212aMods.fnSpellIsTheLastNDigitsOfV
open Go.ChangeShapes Go.WideShapes Go.ChangeAt Go.RowKit
open Go.ChangeMaps (open_string shut_string)
set_option linter.unusedVariables false      -- a walk need not use every 'w<i>' (that an integer argument fits its kind)

theorem own : ownKnob Trym.prog.godebug = none := by kernel_rfl

open Go.Proofs.Qxb6600212aMods.Spell Go.Proofs.Qxb6600212aMods.SpellWalks Go.Proofs.Qxb6600212aMods.Digits Go.Proofs.Qxb6600212aMods.DigitsWalks

/-- The ways on which the law returns ahead of its work. -/
theorem early (a0 : Int) (s : ByteArray) (a2 : Int) (w : World) (hm : s.size ≤ 9223372036854775807)
    (h : 256 < s.size ∨ a2 < 0 ∨ 65536 < a2 ∨ s.size = 0) :
    Calls Trym.prog 6 #[.int .u64 a0, .string s, .int .i64 a2] w fun e w' => e = .returned (.bool true) ∧ Below w.heap.size w w' := by
  by_cases g1 : (1048576 : Int) < (s.size : Int)
  · go_enter Trym.func6, Trym.ntmps6
    go_wp2
    go_ret
    exact ⟨rfl, Below.refl _ _⟩
  · have g1' : s.size ≤ 1048576 := by omega
    by_cases g0 : (256 : Int) < (s.size : Int)
    · go_enter Trym.func6, Trym.ntmps6
      go_wp2_with (go_at_call 15; refine (bytes15 _ _ _ _ g1').mono ?_; rintro e w8 ⟨rfl, h8⟩; obtain rfl := h8.symm)
      go_ret
      exact ⟨rfl, Below.refl _ _⟩
    · by_cases g2 : a2 < 0
      · go_enter Trym.func6, Trym.ntmps6
        go_wp2_with (go_at_call 15; refine (bytes15 _ _ _ _ g1').mono ?_; rintro e w8 ⟨rfl, h8⟩; obtain rfl := h8.symm)
        go_ret
        exact ⟨rfl, Below.refl _ _⟩
      · by_cases g4 : 65536 < a2
        · go_enter Trym.func6, Trym.ntmps6
          go_wp2_with (go_at_call 15; refine (bytes15 _ _ _ _ g1').mono ?_; rintro e w8 ⟨rfl, h8⟩; obtain rfl := h8.symm)
          go_ret
          exact ⟨rfl, Below.refl _ _⟩
        · have g5 : ((s.size : Int) == 0) = true := beq_iff_eq.2 (by omega)
          go_enter Trym.func6, Trym.ntmps6
          go_wp2_with (go_at_call 15; refine (bytes15 _ _ _ _ g1').mono ?_; rintro e w8 ⟨rfl, h8⟩; obtain rfl := h8.symm)
          go_ret
          exact ⟨rfl, Below.refl _ _⟩

theorem step_wrap (b v n k X d : Nat) (hX : X = rd b v n k) (hd : d = dig b v n k) (h1 : rd b v n (k + 1) = rd b v n k * b + dig b v n k) (h2 : rd b v n k * b + dig b v n k < 18446744073709551616) :
    IntKind.u64.wrap (IntKind.u64.wrap ((X : Int) * (b : Int)) + (d : Int)) = ((rd b v n (k + 1) : Nat) : Int) := by
  rw [h1, ← hX, ← hd] at *
  rw [IntKind.wrap_u64, IntKind.wrap_u64, ← Int.natCast_mul]
  generalize X * b = y at *
  omega

set_option maxHeartbeats 400000 in
theorem whole (v n : Nat) (s : ByteArray) (w : World) (hs0 : 0 < s.size) (hs : s.size ≤ 256) (hn : n ≤ 65536) (hv : v < 18446744073709551616) :
    Calls Trym.prog 6 #[.int .u64 v, .string s, .int .i64 n] w fun e w' => e = .returned (.bool true) ∧ Below w.heap.size w w' := by
  have g5 : ((s.size : Int) == 0) = false := beq_eq_false_iff_ne.2 (by omega)
  have hs' : s.size ≤ 1048576 := by omega
  go_enter Trym.func6, Trym.ntmps6
  go_wp2_with (go_at_call 15; refine (bytes15 _ _ _ _ hs').mono ?_; rintro e w8 ⟨rfl, h8⟩; obtain rfl := h8.symm)
  refine (dist16 s w hs).mono ?_
  rintro e w1 ⟨b, rfl, hinj, hb1⟩
  have HB1 := hide hb1
  have HI := hide hinj
  clear hb1 hinj
  cases b
  · go_wp2
    go_ret
    exact ⟨rfl, HB1.out⟩
  · go_wp2_with fail
    refine (spell13 v n s w1 hs0 hs' hn hv).mono ?_
    rintro e w2 ⟨rfl, hb2⟩
    have HB2 : Hid (Below w.heap.size w w2) := HB1.out.trans (hb2.mono HB1.out.size)
    clear hb2
    obtain ⟨S, hS⟩ : ∃ S, S = spellS s v n := ⟨_, rfl⟩
    rw [← hS]
    have hSz : S.size = n := by rw [hS]; exact spellS_size s v n
    have HS := hide hS
    clear hS
    go_wp2_with fail
    go_loop [9, 10] (fun x i => ∃ k : Nat, k ≤ n ∧ i = .int .i64 k ∧ x = .int .u64 ((rd s.size v n k : Nat) : Int)) (fun _ i => n - (intOf i).toNat)
    case atStart => exact ⟨0, Nat.zero_le _, rfl, by rw [rd_zero _ _ _ hs0]; rfl⟩
    case round =>
      obtain ⟨k, hk, rfl, rfl⟩ := hrel
      by_cases hlt : k < n
      · have hkS : k < S.size := by omega
        have hat : S[k] = at0 s (dig s.size v n k) := by
          rw [at0_get, HS.out, spellS_at s v n k hlt, chr_dig]
        have hno := no_over s.size v n k hs0 hlt hv
        have hdl := dig_lt s.size v n k hs0
        have HX := hide (rd_succ s.size v n k hlt)
        have HY := hide (step_bd s.size v n k hlt hv)
        have hX64 : rd s.size v n k < 18446744073709551616 := Nat.lt_of_le_of_lt (rd_le _ _ _ _) hv
        obtain ⟨X, hX⟩ : ∃ X, X = rd s.size v n k := ⟨_, rfl⟩
        obtain ⟨d, hd⟩ : ∃ d, d = dig s.size v n k := ⟨_, rfl⟩
        obtain ⟨q, hq⟩ : ∃ q : Int, q = (S[k].toNat : Int) := ⟨_, rfl⟩
        have hidx := index17 s q d w2 hs' (by omega) (by rw [hq, hat, hd]) (fun i hi => by
          rw [hq, hat, ← hd]
          intro h
          have h2 : (at0 s i).toNat = (at0 s d).toNat := by omega
          exact HI.out (by first | rfl | trivial) i d hi (by omega) (UInt8.toNat_inj.1 h2))
        have HQ := hide hidx
        have hq' : (S[k].toNat : Int) = q := hq.symm
        rw [← hX] at hno hX64 ⊢
        rw [← hd] at hno hdl
        have HdX := hide hX
        have Hdd := hide hd
        clear hX hd hq hidx hat
        go_wp2_with (go_at_call 17; refine (Calls.mono HQ.out ?_); rintro e w9 ⟨rfl, h9⟩; obtain rfl := h9.symm)
        go_round
        case rel => exact ⟨k + 1, by omega, by go_num, by rw [step_wrap s.size v n k X d HdX.out Hdd.out HX.out HY.out]⟩
        case measure => simp [intOf]; omega
      · obtain rfl : k = n := by omega
        go_wp2_with fail
        refine (last18 v s.size k (v % s.size ^ k) w2 hv hs0 hs hn rfl).mono ?_
        rintro e w9 ⟨rfl, h9⟩
        obtain rfl := h9.symm
        rw [rd_last]
        generalize v % s.size ^ k = R at *
        go_wp2
        go_ret
        exact ⟨rfl, HB2.out⟩

theorem walk (a0 : Int) (a1 : ByteArray) (a2 : Int) (w0 : (Lit.int .u64 a0).wf = true) (w1 : a1.size ≤ maxLen) (w2 : (Lit.int .i64 a2).wf = true) (w : World) :
    Calls Trym.prog 6 #[.int .u64 a0, .string a1, .int .i64 a2] w fun e w' => e = .returned (.bool true) ∧ Below w.heap.size w w' := by
  have b0 := bounds_u64 w0
  unfold maxLen at w1
  by_cases hE : 256 < a1.size ∨ a2 < 0 ∨ 65536 < a2 ∨ a1.size = 0
  · exact early a0 a1 a2 w w1 hE
  · obtain ⟨v, rfl⟩ := Int.eq_ofNat_of_zero_le b0.1
    obtain ⟨n, rfl⟩ := Int.eq_ofNat_of_zero_le (show 0 ≤ a2 by omega)
    exact whole v n a1 w (by omega) (by omega) (by omega) (by omega)

/-! ### THE ROW's STEP: WRITTEN OUT: LEAVE IT -/
set_option maxRecDepth 100000 in
theorem lifted (os : Os) (started : os.Started) (H : Type) (enc : TypeId × Value → H) :
    ReturnsInHanded {} Trym.checked os 6 .any (Rows.fnSpellIsTheLastNDigitsOfVSpec.pre6 enc Trym.prog Trym.f6 Rows.fnSpellIsTheLastNDigitsOfVRow.domain false) (Rows.fnSpellIsTheLastNDigitsOfVSpec.post enc Trym.prog Trym.f6 false true false false) := by
  refine returnsInHanded_of_change (C := Trym.checked) own started (by kernel_rfl) Trym.func6
    (ChangeSpec.witness6 (enc := enc) (C := Trym.checked) false ⟨#[], #[.int .u64 0, .string ByteArray.empty, .int .i64 0], []⟩ 8 (by kernel_rfl) (by kernel_rfl) (by kernel_rfl) (by kernel_rfl)) ?_
  intro W base args ds gs before hval0 hW hcnd _
  have hval : ∀ (j : Nat) t v, Trym.f6.params[j]? = some t → args[j]? = some v → Value.okWide Trym.prog W .any base t v := hval0
  have hW' := hW
  obtain ⟨p, q, hA0, hV, rfl, hfz, hnd⟩ := hW
  have hA : DataW.TrodAll enc Trym.prog W 0 (fun _ => true) true Trym.f6.params.toList args.toList ds p := hA0
  rw [Trym.params6] at hA hval
  obtain ⟨v0, vs0, d0, ds0, p0, q0, hargs, rfl, rfl, h0, r0⟩ := trodAll_cons hA
  obtain ⟨v1, vs1, d1, ds1, p1, q1, rfl, rfl, rfl, h1, r1⟩ := trodAll_cons r0
  obtain ⟨v2, vs2, d2, ds2, p2, q2, rfl, rfl, rfl, h2, r2⟩ := trodAll_cons r1
  obtain ⟨rfl, rfl, rfl⟩ := trodAll_nil r2
  obtain rfl : args = #[v0, v1, v2] := by cases args; simp_all
  obtain ⟨rfl, rfl⟩ := trodVars_none hV
  obtain ⟨a0, rfl, rfl, rfl, w0⟩ := open_int Trym.underlying24 (hval 0 24 v0 rfl rfl) h0
  obtain ⟨a1, rfl, rfl, rfl, w1⟩ := open_string Trym.underlying9 (hval 1 9 v1 rfl rfl) h1
  obtain ⟨a2, rfl, rfl, rfl, w2⟩ := open_int Trym.underlying3 (hval 2 3 v2 rfl rfl) h2
  clear hA0 hval0
  refine (walk a0 a1 a2 w0 w1 w2 W).mono fun e W' ⟨he, bel⟩ => ?_
  subst he
  exact ⟨_, rfl, _, _, _, [], _, [], hW', trodAll_mk1 (shut_bool Trym.underlying4 _), (trodAll_cons_mk (shut_int Trym.underlying24 w0) (trodAll_cons_mk (shut_string Trym.underlying9 w1) (trodAll_cons_mk (shut_int Trym.underlying3 w2) trodAll_mk0))), rfl, bel.frame _, fun h => by cases h⟩

theorem over : Rows.fnSpellIsTheLastNDigitsOfVRow.holds Trym.pinned (OpenSpec.ofChange Rows.fnSpellIsTheLastNDigitsOfVSpec) :=
  OpenClaim.holds_of_wide 6 Trym.f6 rfl rfl rfl rfl rfl rfl rfl ⟨rfl, rfl, rfl, rfl, rfl⟩ rfl rfl rfl rfl rfl (by kernel_rfl) Trym.func6 (by kernel_rfl)
    (of_decide_eq_true (by kernel_rfl)) (by unfold Func.isWrapper; first | (rw [if_pos (by decide +kernel)]; kernel_rfl) | (rw [if_neg (by decide +kernel)]; exact ⟨rfl, rfl⟩))
    (fun os started H enc _ => lifted os started H enc)

/-- ████ THE STATEMENT ████ -/
theorem proved : Rows.FnSpellIsTheLastNDigitsOfVSaid :=
  over
#print axioms proved
end Go.Proofs.Qxb6600212aMods.fnSpellIsTheLastNDigitsOfV
