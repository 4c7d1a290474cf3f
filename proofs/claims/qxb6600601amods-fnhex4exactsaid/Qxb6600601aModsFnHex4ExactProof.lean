/-
  THE PROOF OF 'Rows.FnHex4ExactSaid', out of the seed's shell: the walk is filled; the row's step is the shell's own, with 'Below' in the place of 'Grown'. By an AI agent.
-/
import Derived.Test.Qxb6600601aModsRows
import Derived.WalkKit
import Derived.ProofKit
import Derived.OpenShut
import Derived.ShutString
import Derived.ChangeOld
import Derived.Below
import Derived.Test.Qxb6600601aModsDigitWalks
namespace Go.Proofs.Qxb6600601aMods.fnHex4Exact
open Go.ChangeShapes Go.WideShapes Go.ChangeAt Go.RowKit
open Go.ChangeMaps (open_string shut_string)
set_option linter.unusedVariables false      -- a walk need not use every 'w<i>' (that an integer argument fits its kind)

theorem own : ownKnob Trym.prog.godebug = none := by kernel_rfl

open Go.Proofs.Qxb6600601aMods.Hex Go.Proofs.Qxb6600601aMods.HexWalks Go.Proofs.Qxb6600601aMods.Trip Go.Proofs.Qxb6600601aMods.DigitWalks

theorem bytes7 (s : ByteArray) (w : World) (hs : s.size ≤ 1048576) :
    Calls Trym.prog 7 #[.string s] w fun e w' => e = .returned (.bool true) ∧ w' = w := by
  go_enter Trym.func7, Trym.ntmps7
  go_wp2
  go_ret
  exact ⟨rfl, rfl⟩

theorem early (s : ByteArray) (w : World) (hm : s.size ≤ 9223372036854775807) (g1 : (1048576 : Int) < (s.size : Int)) :
    Calls Trym.prog 3 #[.string s] w fun e w' => e = .returned (.bool true) ∧ Below w.heap.size w w' := by
  go_enter Trym.func3, Trym.ntmps3
  go_wp2
  go_ret
  exact ⟨rfl, Below.refl _ _⟩

/-- hex4 where it answers -1. -/
theorem hex_no (s : ByteArray) (w : World) (hm : s.size ≤ 9223372036854775807) (h : ¬ (head s ∧ good s 4)) :
    Calls Trym.prog 9 #[.string s] w fun e w' => e = .returned (.int .i32 (-1)) ∧ Below w.heap.size w w' := by
  refine (hex9 s w hm).mono ?_
  rintro e w' ⟨r, rfl, hr, hb⟩
  rcases hr with ⟨h1, h2, _⟩ | ⟨_, hr⟩
  · exact absurd ⟨h1, h2⟩ h
  · exact ⟨by rw [hr], hb⟩

theorem hex_yes (s : ByteArray) (w : World) (hm : s.size ≤ 9223372036854775807) (h : head s ∧ good s 4) :
    Calls Trym.prog 9 #[.string s] w fun e w' => e = .returned (.int .i32 (rv s 4 : Nat)) ∧ Below w.heap.size w w' := by
  refine (hex9 s w hm).mono ?_
  rintro e w' ⟨r, rfl, hr, hb⟩
  rcases hr with ⟨_, _, hr⟩ | ⟨h1, _⟩
  · exact ⟨by rw [hr], hb⟩
  · exact absurd h h1

/-- The text does not begin with a backslash and a u, or is too short. -/
theorem whole_no (s : ByteArray) (w : World) (hs : s.size ≤ 1048576) (h : ¬ head s) :
    Calls Trym.prog 3 #[.string s] w fun e w' => e = .returned (.bool true) ∧ Below w.heap.size w w' := by
  have HX := hide (hex_no s w (by omega) (fun x => h x.1))
  by_cases h6 : s.size < 6
  · clear h
    go_enter Trym.func3, Trym.ntmps3
    go_wp2_with (first | (go_at_call 7; refine (bytes7 _ _ hs).mono ?_; rintro e w8 ⟨rfl, h8⟩; obtain rfl := h8.symm) | (go_at_call 9; refine (Calls.mono HX.out ?_); rintro e w9 ⟨rfl, hb9⟩; have HB9 := hide hb9; clear hb9))
    go_ret
    exact ⟨rfl, HB9.out⟩
  · have h0s : 0 < s.size := by omega
    have h1s : 1 < s.size := by omega
    by_cases h0 : s[0].toNat = 92
    · have h1 : ((s[1].toNat : Int) == 117) = false := by
        rw [beq_eq_false_iff_ne]
        intro g
        exact h ⟨by omega, by rw [← at0_get s 0 h0s, h0], by rw [← at0_get s 1 h1s]; omega⟩
      clear h
      go_enter Trym.func3, Trym.ntmps3
      go_wp2_with (first | (go_at_call 7; refine (bytes7 _ _ hs).mono ?_; rintro e w8 ⟨rfl, h8⟩; obtain rfl := h8.symm) | (go_at_call 9; refine (Calls.mono HX.out ?_); rintro e w9 ⟨rfl, hb9⟩; have HB9 := hide hb9; clear hb9))
      go_ret
      exact ⟨rfl, HB9.out⟩
    · have h1 : ((s[0].toNat : Int) == 92) = false := by
        rw [beq_eq_false_iff_ne]
        omega
      clear h h0
      go_enter Trym.func3, Trym.ntmps3
      go_wp2_with (first | (go_at_call 7; refine (bytes7 _ _ hs).mono ?_; rintro e w8 ⟨rfl, h8⟩; obtain rfl := h8.symm) | (go_at_call 9; refine (Calls.mono HX.out ?_); rintro e w9 ⟨rfl, hb9⟩; have HB9 := hide hb9; clear hb9))
      go_ret
      exact ⟨rfl, HB9.out⟩

theorem dI_cases (c : Nat) : (dg c < 16 ∧ dI c = (dg c : Nat)) ∨ (¬ dg c < 16 ∧ dI c = -1) := by
  unfold dI
  by_cases h : dg c < 16
  · exact .inl ⟨h, if_pos h⟩
  · exact .inr ⟨h, if_neg h⟩

theorem rv4 (s : ByteArray) : rv s 4 = dg (at0 s 2) * 4096 + dg (at0 s 3) * 256 + dg (at0 s 4) * 16 + dg (at0 s 5) := by
  simp only [rv, Nat.reduceAdd]
  omega

theorem good4 (s : ByteArray) : good s 4 ↔ dg (at0 s 2) < 16 ∧ dg (at0 s 3) < 16 ∧ dg (at0 s 4) < 16 ∧ dg (at0 s 5) < 16 := by
  constructor
  · intro h
    exact ⟨h 0 (by omega), h 1 (by omega), h 2 (by omega), h 3 (by omega)⟩
  · rintro ⟨h0, h1, h2, h3⟩ i hi
    rcases (show i = 0 ∨ i = 1 ∨ i = 2 ∨ i = 3 by omega) with rfl | rfl | rfl | rfl
    · exact h0
    · exact h1
    · exact h2
    · exact h3

set_option maxHeartbeats 800000 in
theorem whole_yes (s : ByteArray) (w : World) (hs : s.size ≤ 1048576) (h : head s) :
    Calls Trym.prog 3 #[.string s] w fun e w' => e = .returned (.bool true) ∧ Below w.heap.size w w' := by
  have hh := h
  obtain ⟨h6, h0, h1⟩ := h
  have h0s : 0 < s.size := by omega
  have h1s : 1 < s.size := by omega
  have h2s : 2 < s.size := by omega
  have h3s : 3 < s.size := by omega
  have h4s : 4 < s.size := by omega
  have h5s : 5 < s.size := by omega
  have g0 : s[0].toNat = 92 := by rw [at0_get, h0]
  have g1 : s[1].toNat = 117 := by rw [at0_get, h1]
  obtain ⟨c0, hc0⟩ : ∃ c, c = at0 s 2 := ⟨_, rfl⟩
  obtain ⟨c1, hc1⟩ : ∃ c, c = at0 s 3 := ⟨_, rfl⟩
  obtain ⟨c2, hc2⟩ : ∃ c, c = at0 s 4 := ⟨_, rfl⟩
  obtain ⟨c3, hc3⟩ : ∃ c, c = at0 s 5 := ⟨_, rfl⟩
  have g2 : s[2].toNat = c0 := by rw [at0_get, hc0]
  have g3 : s[3].toNat = c1 := by rw [at0_get, hc1]
  have g4 : s[4].toNat = c2 := by rw [at0_get, hc2]
  have g5 : s[5].toNat = c3 := by rw [at0_get, hc3]
  have C0 := hide (digit8 c0 w (by rw [hc0]; exact at0_lt _ _))
  have C1 := hide (digit8 c1 w (by rw [hc1]; exact at0_lt _ _))
  have C2 := hide (digit8 c2 w (by rw [hc2]; exact at0_lt _ _))
  have C3 := hide (digit8 c3 w (by rw [hc3]; exact at0_lt _ _))
  have G4 := hide (good4 s)
  have R4 := hide (rv4 s)
  have HX1 : Hid (good s 4 → Calls Trym.prog 9 #[.string s] w fun e w' => e = .returned (.int .i32 (rv s 4 : Nat)) ∧ Below w.heap.size w w') := fun g => hex_yes s w (by omega) ⟨hh, g⟩
  have HX2 : Hid (¬ good s 4 → Calls Trym.prog 9 #[.string s] w fun e w' => e = .returned (.int .i32 (-1)) ∧ Below w.heap.size w w') := fun g => hex_no s w (by omega) (fun x => g x.2)
  rw [← hc0, ← hc1, ← hc2, ← hc3] at G4 R4
  have k0 := dI_cases c0
  have k1 := dI_cases c1
  have k2 := dI_cases c2
  have k3 := dI_cases c3
  obtain ⟨x0, hx0⟩ : ∃ x, x = dI c0 := ⟨_, rfl⟩
  obtain ⟨x1, hx1⟩ : ∃ x, x = dI c1 := ⟨_, rfl⟩
  obtain ⟨x2, hx2⟩ : ∃ x, x = dI c2 := ⟨_, rfl⟩
  obtain ⟨x3, hx3⟩ : ∃ x, x = dI c3 := ⟨_, rfl⟩
  rw [← hx0] at C0 k0
  rw [← hx1] at C1 k1
  rw [← hx2] at C2 k2
  rw [← hx3] at C3 k3
  have b0 : -1 ≤ x0 ∧ x0 ≤ 15 := by omega
  have b1 : -1 ≤ x1 ∧ x1 ≤ 15 := by omega
  have b2 : -1 ≤ x2 ∧ x2 ≤ 15 := by omega
  have b3 : -1 ≤ x3 ∧ x3 ≤ 15 := by omega
  have HC : Hid ((0 ≤ x0 ∧ 0 ≤ x1 ∧ 0 ≤ x2 ∧ 0 ≤ x3) → good s 4 ∧ ((rv s 4 : Nat) : Int) = x0 * 4096 + x1 * 256 + x2 * 16 + x3) := fun h => by
    refine ⟨G4.out.2 ⟨by omega, by omega, by omega, by omega⟩, ?_⟩
    rw [R4.out]
    omega
  have HN : Hid ((x0 < 0 ∨ x1 < 0 ∨ x2 < 0 ∨ x3 < 0) → ¬ good s 4) := fun h g => by
    have := G4.out.1 g
    omega
  clear h0 h1 hc0 hc1 hc2 hc3 hx0 hx1 hx2 hx3 k0 k1 k2 k3 hh G4 R4
  obtain ⟨b00, b01⟩ := b0
  obtain ⟨b10, b11⟩ := b1
  obtain ⟨b20, b21⟩ := b2
  obtain ⟨b30, b31⟩ := b3
  go_enter Trym.func3, Trym.ntmps3
  go_wp2_with (go_at_call 7; refine (bytes7 _ _ hs).mono ?_; rintro e w8 ⟨rfl, h8⟩; obtain rfl := h8.symm)
  refine (Calls.mono C0.out ?_)
  rintro e w9 ⟨rfl, h9⟩
  obtain rfl := h9.symm
  go_wp2_with fail
  refine (Calls.mono C1.out ?_)
  rintro e w9 ⟨rfl, h9⟩
  obtain rfl := h9.symm
  go_wp2_with fail
  refine (Calls.mono C2.out ?_)
  rintro e w9 ⟨rfl, h9⟩
  obtain rfl := h9.symm
  go_wp2_with fail
  refine (Calls.mono C3.out ?_)
  rintro e w9 ⟨rfl, h9⟩
  obtain rfl := h9.symm
  by_cases p0 : 0 ≤ x0
  · by_cases p1 : 0 ≤ x1
    · by_cases p2 : 0 ≤ x2
      · by_cases p3 : 0 ≤ x3
        · obtain ⟨hg, hr⟩ := HC.out ⟨p0, p1, p2, p3⟩
          have HX := hide (HX1.out hg)
          rw [hr] at HX
          clear hr hg
          go_wp2_with fail
          refine (Calls.mono HX.out ?_)
          rintro e w9 ⟨rfl, hb9⟩
          have HB9 := hide hb9
          clear hb9
          go_wp2
          go_ret
          exact ⟨rfl, HB9.out⟩
        · have HX := hide (HX2.out (HN.out (by omega)))
          go_wp2_with fail
          refine (Calls.mono HX.out ?_)
          rintro e w9 ⟨rfl, hb9⟩
          have HB9 := hide hb9
          clear hb9
          go_wp2
          go_ret
          exact ⟨rfl, HB9.out⟩
      · have HX := hide (HX2.out (HN.out (by omega)))
        go_wp2_with fail
        refine (Calls.mono HX.out ?_)
        rintro e w9 ⟨rfl, hb9⟩
        have HB9 := hide hb9
        clear hb9
        go_wp2
        go_ret
        exact ⟨rfl, HB9.out⟩
    · have HX := hide (HX2.out (HN.out (by omega)))
      go_wp2_with fail
      refine (Calls.mono HX.out ?_)
      rintro e w9 ⟨rfl, hb9⟩
      have HB9 := hide hb9
      clear hb9
      go_wp2
      go_ret
      exact ⟨rfl, HB9.out⟩
  · have HX := hide (HX2.out (HN.out (by omega)))
    go_wp2_with fail
    refine (Calls.mono HX.out ?_)
    rintro e w9 ⟨rfl, hb9⟩
    have HB9 := hide hb9
    clear hb9
    go_wp2
    go_ret
    exact ⟨rfl, HB9.out⟩

theorem walk (a0 : ByteArray) (w0 : a0.size ≤ maxLen) (w : World) :
    Calls Trym.prog 3 #[.string a0] w fun e w' => e = .returned (.bool true) ∧ Below w.heap.size w w' := by
  unfold maxLen at w0
  by_cases hE : (1048576 : Int) < (a0.size : Int)
  · exact early a0 w w0 hE
  · by_cases h : head a0
    · exact whole_yes a0 w (by omega) h
    · exact whole_no a0 w (by omega) h

/-! ### THE ROW's STEP: WRITTEN OUT: LEAVE IT -/
set_option maxRecDepth 100000 in
theorem lifted (os : Os) (started : os.Started) (H : Type) (enc : TypeId × Value → H) :
    ReturnsInHanded {} Trym.checked os 3 .any (Rows.fnHex4ExactSpec.pre6 enc Trym.prog Trym.f3 Rows.fnHex4ExactRow.domain false) (Rows.fnHex4ExactSpec.post enc Trym.prog Trym.f3 false true false false) := by
  refine returnsInHanded_of_change (C := Trym.checked) own started (by kernel_rfl) Trym.func3
    (ChangeSpec.witness6 (enc := enc) (C := Trym.checked) false ⟨#[], #[.string ByteArray.empty], []⟩ 8 (by kernel_rfl) (by kernel_rfl) (by kernel_rfl) (by kernel_rfl)) ?_
  intro W base args ds gs before hval0 hW hcnd _
  have hval : ∀ (j : Nat) t v, Trym.f3.params[j]? = some t → args[j]? = some v → Value.okWide Trym.prog W .any base t v := hval0
  have hW' := hW
  obtain ⟨p, q, hA0, hV, rfl, hfz, hnd⟩ := hW
  have hA : DataW.TrodAll enc Trym.prog W 0 (fun _ => true) true Trym.f3.params.toList args.toList ds p := hA0
  rw [Trym.params3] at hA hval
  obtain ⟨v0, vs0, d0, ds0, p0, q0, hargs, rfl, rfl, h0, r0⟩ := trodAll_cons hA
  obtain ⟨rfl, rfl, rfl⟩ := trodAll_nil r0
  obtain rfl : args = #[v0] := by cases args; simp_all
  obtain ⟨rfl, rfl⟩ := trodVars_none hV
  obtain ⟨a0, rfl, rfl, rfl, w0⟩ := open_string Trym.underlying9 (hval 0 9 v0 rfl rfl) h0
  clear hA0 hval0
  refine (walk a0 w0 W).mono fun e W' ⟨he, bel⟩ => ?_
  subst he
  exact ⟨_, rfl, _, _, _, [], _, [], hW', trodAll_mk1 (shut_bool Trym.underlying4 _), (trodAll_cons_mk (shut_string Trym.underlying9 w0) trodAll_mk0), rfl, bel.frame _, fun h => by cases h⟩

theorem over : Rows.fnHex4ExactRow.holds Trym.pinned (OpenSpec.ofChange Rows.fnHex4ExactSpec) :=
  OpenClaim.holds_of_wide 3 Trym.f3 rfl rfl rfl rfl rfl rfl rfl ⟨rfl, rfl, rfl, rfl, rfl⟩ rfl rfl rfl rfl rfl (by kernel_rfl) Trym.func3 (by kernel_rfl)
    (of_decide_eq_true (by kernel_rfl)) (by unfold Func.isWrapper; first | (rw [if_pos (by decide +kernel)]; kernel_rfl) | (rw [if_neg (by decide +kernel)]; exact ⟨rfl, rfl⟩))
    (fun os started H enc _ => lifted os started H enc)

/-- ████ THE STATEMENT ████ -/
theorem proved : Rows.FnHex4ExactSaid :=
  over
#print axioms proved
end Go.Proofs.Qxb6600601aMods.fnHex4Exact
