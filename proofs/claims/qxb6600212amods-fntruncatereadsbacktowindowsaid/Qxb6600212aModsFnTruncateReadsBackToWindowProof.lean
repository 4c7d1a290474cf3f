/-
  THE PROOF OF 'Rows.FnTruncateReadsBackToWindowSaid', out of the seed's shell: the walk is filled; the row's step is the shell's own. By an AI agent.
-/
import Derived.Test.Qxb6600212aModsRows
import Derived.WalkKit
import Derived.ProofKit
import Derived.OpenShut
import Derived.ShutString
import Derived.ChangeOld
import Derived.Below
import Derived.Test.Qxb6600212aModsTruncParts
namespace Go.Proofs.Qxb6600212aMods.fnTruncateReadsBackToWindow
open Go.ChangeShapes Go.WideShapes Go.ChangeAt Go.RowKit
open Go.ChangeMaps (open_string shut_string)
set_option linter.unusedVariables false

theorem own : ownKnob Trym.prog.godebug = none := by kernel_rfl
theorem laidOut : laidOutB Trym.prog = true := by kernel_rfl

/-- WHAT THE WALK IS TOLD OF A SLICE OF INTEGERS THAT CAME IN: it is nil; or it leads to a row of 'cap' cells, the numbers 'zs' (the first 'len' are its elements, the rest its spare room), each fitting its kind. -/
def IsRow (k : IntKind) (w : World) (a : Option Addr) (len cap : Nat) (zs : List Int) : Prop :=
  (a = none ∧ len = 0 ∧ cap = 0 ∧ zs = []) ∨
  ∃ x, a = some x ∧ len ≤ cap ∧ cap ≤ maxLen ∧ zs.length = cap ∧ (∀ i, i < zs.length → w.cell? (x.add i) = some (.int k (zs.getD i 0))) ∧ ∀ n ∈ zs, (Lit.int k n).wf = true

open Go.Proofs.Qxb6600212aMods.Trunc Go.Proofs.Qxb6600212aMods.TruncWalks Go.Proofs.Qxb6600212aMods.TruncParts

theorem hide {p : Prop} (h : p) : Hid p := h

set_option maxHeartbeats 400000 in
theorem whole (b off len cap n : Nat) (B : Nat → Nat) (w : World) (hm : len ≤ 1048576) (hn1 : 1 ≤ n) (hn8 : n ≤ 8) (hlen : 15 + n ≤ len) (hrow : Row w b off len B) :
    Calls Trym.prog 3 #[.slice (some ⟨b, off, none⟩) len cap, .int .i64 n] w fun e w' => e = .returned (.bool true) ∧ Below w.heap.size w w' := by
  obtain ⟨Z, W2, hmk, hcp, hrow2, hbel⟩ := make_copy b off len cap B w hm hrow (by omega)
  clear hrow
  obtain ⟨hc, hb⟩ := id hrow2
  obtain ⟨L, hL⟩ : ∃ L, L = B (len - 1) := ⟨_, rfl⟩
  have hcl : W2.cell? ⟨w.heap.size, len - 1, none⟩ = some (.int .u8 L) := by rw [hL]; simpa using hc (len - 1) (by omega)
  have hLb : L < 256 := by rw [hL]; exact hb _
  have hT := trunc9 w.heap.size 0 len len n B W2 (Nat.le_refl _) hm hn1 hn8 hlen hrow2
  rw [← hL] at hT
  obtain ⟨o, ho⟩ : ∃ o, o = L % 16 := ⟨_, rfl⟩
  have ho' : (L : Int) % 16 = (o : Int) := by omega
  have ho16 : o < 16 := by omega
  rw [← ho] at hT
  clear hL ho
  obtain ⟨R, hR⟩ : ∃ R, R = tr B o n := ⟨_, rfl⟩
  have hR64 : R < 18446744073709551616 := by rw [hR]; exact tr_lt64 B o n hn1 hn8
  rw [← hR] at hT
  have HR : Hid (R = tr B o n) := hR
  have HT := hide hT
  have HBel : Hid (Below w.heap.size w W2) := hbel
  clear hbel hR hT hrow2
  go_enter Trym.func3, Trym.ntmps3
  go_wp2_with (go_at_call 8; refine (bytes8 _ _ _ _ _ hm).mono ?_; rintro e w8 ⟨rfl, h8⟩; obtain rfl := h8.symm)
  refine (Calls.mono HT.out ?_)
  rintro e w9 ⟨rfl, h9⟩
  obtain rfl := h9.symm
  go_wp2
  go_loop [8] (fun i => ∃ k : Nat, k ≤ n ∧ i = .int .i64 k) (fun i => n - (intOf i).toNat)
  case atStart => exact ⟨0, Nat.zero_le _, rfl⟩
  case round =>
    obtain ⟨k, hk, rfl⟩ := hrel
    by_cases hlt : k < n
    · have hby := tr_byte B o n k hb hlt
      rw [← HR.out] at hby
      by_cases h0 : k = 0
      · subst h0
        have hck : W2.cell? ⟨w.heap.size, o, none⟩ = some (.int .u8 (B o)) := by simpa using hc o (by omega)
        have hbk := hb o
        have hbt : (R : Int) / 2 ^ (8 * (n - 1)) % 256 = (B o : Int) % 128 := by
          rw [if_pos rfl, Nat.sub_zero] at hby
          rw [cast_byte, hby]
          rfl
        clear hby
        go_wp2
        go_round
        case rel => exact ⟨1, by omega, by go_num⟩
        case measure => simp [intOf]; omega
      · have hck : W2.cell? ⟨w.heap.size, o + k, none⟩ = some (.int .u8 (B (o + k))) := by simpa using hc (o + k) (by omega)
        have hbk := hb (o + k)
        have hk0 : ((k : Int) == 0) = false := by simp; omega
        have hbt : (R : Int) / 2 ^ (8 * (n - 1 - k)) % 256 = (B (o + k) : Int) := by
          rw [if_neg h0] at hby
          rw [cast_byte, hby]
        clear hby
        go_wp2
        go_round
        case rel => exact ⟨k + 1, by omega, by go_num⟩
        case measure => simp [intOf]; omega
    · have hab := tr_above B o n hn1
      rw [← HR.out] at hab
      have hab' : (R : Int) / 2 ^ (8 * n) = 0 := by rw [cast_div, hab]; rfl
      clear hab
      by_cases h8 : (n : Int) < 8
      · go_wp2
        go_ret
        exact ⟨rfl, HBel.out⟩
      · go_wp2
        go_ret
        exact ⟨rfl, HBel.out⟩

/-! ### STEP 1: THE WALK: the Go text returns true, AND WRITES NOTHING THAT WAS THERE. -/
theorem walk (a0 : Option Addr) (len0 cap0 : Nat) (z0 : List Int) (a1 : Int) (w : World) (w0 : IsRow .u8 w a0 len0 cap0 z0) (w1 : (Lit.int .i64 a1).wf = true) :
    Calls Trym.prog 3 #[.slice a0 len0 cap0, .int .i64 a1] w fun e w' => e = .returned (.bool true) ∧ Below w.heap.size w w' := by
  have hb : -9223372036854775808 ≤ a1 ∧ a1 ≤ 9223372036854775807 := by
    exact bounds_i64 w1
  rcases w0 with ⟨rfl, rfl, rfl, rfl⟩ | ⟨x, rfl, hl, hm, hz, hcell, hwz⟩
  · exact TruncParts.early _ _ _ _ _ (by omega) hb.1 hb.2 (by omega)
  · unfold maxLen at hm
    by_cases hE : 1048576 < len0 ∨ a1 < 1 ∨ 8 < a1 ∨ (len0 : Int) < 15 + a1
    · exact TruncParts.early _ _ _ _ _ (by omega) hb.1 hb.2 hE
    · obtain ⟨b, off, spot⟩ := x
      have hc := hcell 0 (by omega)
      have hspot : spot = none := by simpa [Addr.add] using World.cell?_spot hc
      subst hspot
      obtain ⟨n, rfl⟩ := Int.eq_ofNat_of_zero_le (show 0 ≤ a1 by omega)
      have hu : ∀ z ∈ z0, 0 ≤ z ∧ z ≤ 255 := fun z hzm => by
        exact bounds_u8 (hwz z hzm)
      refine whole b off len0 cap0 n (fun i => (z0.getD i 0).toNat) w (by omega) (by omega) (by omega) (by omega) ⟨fun i hi => ?_, fun i => ?_⟩
      · have h1 := hcell i (by omega)
        rw [Addr.add_lit] at h1
        rw [h1]
        have : 0 ≤ z0.getD i 0 := by
          rw [List.getD_eq_getElem?_getD, List.getElem?_eq_getElem (by omega), Option.getD_some]
          exact (hu _ (List.getElem_mem _)).1
        rw [Int.toNat_of_nonneg this]
      · show (z0.getD i 0).toNat < 256
        by_cases hi : i < z0.length
        · have := hu _ (List.getElem_mem hi)
          rw [List.getD_eq_getElem?_getD, List.getElem?_eq_getElem hi, Option.getD_some]
          omega
        · rw [List.getD_eq_getElem?_getD, List.getElem?_eq_none (by omega), Option.getD_none]
          simp

/-! ### THE ROW's STEP: WRITTEN OUT: LEAVE IT -/
set_option maxRecDepth 100000 in
theorem lifted (os : Os) (started : os.Started) (H : Type) (enc : TypeId × Value → H) :
    ReturnsInHanded {} Trym.checked os 3 .any (Rows.fnTruncateReadsBackToWindowSpec.pre6 enc Trym.prog Trym.f3 Rows.fnTruncateReadsBackToWindowRow.domain false) (Rows.fnTruncateReadsBackToWindowSpec.post enc Trym.prog Trym.f3 false true false false) := by
  refine returnsInHanded_of_change (C := Trym.checked) own started (by kernel_rfl) Trym.func3
    (ChangeSpec.witness6 (enc := enc) (C := Trym.checked) false ⟨#[], #[.slice none 0 0, .int .i64 0], []⟩ 8 (by kernel_rfl) (by kernel_rfl) (by kernel_rfl) (by kernel_rfl)) ?_
  intro W base args ds gs before hval0 hW hcnd _
  have hval : ∀ (j : Nat) t v, Trym.f3.params[j]? = some t → args[j]? = some v → Value.okWide Trym.prog W .any base t v := hval0
  have hW' := hW
  obtain ⟨p, q, hA0, hV, rfl, hfz, hnd⟩ := hW
  have hA : DataW.TrodAll enc Trym.prog W 0 (fun _ => true) true Trym.f3.params.toList args.toList ds p := hA0
  rw [Trym.params3] at hA hval
  obtain ⟨v0, vs0, d0, ds0, p0, q0, hargs, rfl, rfl, h0, r0⟩ := trodAll_cons hA
  obtain ⟨v1, vs1, d1, ds1, p1, q1, rfl, rfl, rfl, h1, r1⟩ := trodAll_cons r0
  obtain ⟨rfl, rfl, rfl⟩ := trodAll_nil r1
  obtain rfl : args = #[v0, v1] := by cases args; simp_all
  obtain ⟨rfl, rfl⟩ := trodVars_none hV
  obtain ⟨a0, len0, cap0, rfl⟩ := okWide_slice Trym.underlying22 (hval 0 22 v0 rfl rfl)
  have k0 := h0
  have lt0 : ∀ x ∈ p0, x.block < W.heap.size := by obtain ⟨m, hm⟩ := k0; exact DataW.trod_lt m _ _ _ hm
  obtain ⟨z0, w0⟩ : ∃ zs, IsRow .u8 W a0 len0 cap0 zs := by
    obtain ⟨fuel, hf⟩ := h0
    rcases open_ints Trym.underlying22 Trym.underlying5 (by kernel_rfl) hf with ⟨hcs, _⟩ | ⟨x, l, c, zs, hcs, _, hl, hm, hz, _, hcell, hwz⟩
    · simp [Value.cells] at hcs
      obtain ⟨rfl, rfl, rfl⟩ := hcs
      exact ⟨[], .inl ⟨rfl, rfl, rfl, rfl⟩⟩
    · simp [Value.cells] at hcs
      obtain ⟨rfl, rfl, rfl⟩ := hcs
      exact ⟨zs, .inr ⟨_, rfl, hl, hm, by simpa using hz, hcell, hwz⟩⟩
  obtain ⟨a1, rfl, rfl, rfl, w1⟩ := open_int Trym.underlying3 (hval 1 3 v1 rfl rfl) h1
  clear hA0 hval0
  refine (walk a0 len0 cap0 z0 a1 W w0 w1).mono fun e W' ⟨he, bel⟩ => ?_
  subst he
  exact ⟨_, rfl, _, _, _, [], _, [], hW', trodAll_mk1 (shut_bool Trym.underlying4 _), (trodAll_cons_mk (Below.trod laidOut (by kernel_rfl) (of_decide_eq_true (by kernel_rfl)) k0 bel lt0) (trodAll_cons_mk (shut_int Trym.underlying3 w1) trodAll_mk0)), rfl, bel.frame _, fun h => by cases h⟩

theorem over : Rows.fnTruncateReadsBackToWindowRow.holds Trym.pinned (OpenSpec.ofChange Rows.fnTruncateReadsBackToWindowSpec) :=
  OpenClaim.holds_of_wide 3 Trym.f3 rfl rfl rfl rfl rfl rfl rfl ⟨rfl, rfl, rfl, rfl, rfl⟩ rfl rfl rfl rfl rfl (by kernel_rfl) Trym.func3 (by kernel_rfl)
    (of_decide_eq_true (by kernel_rfl)) (by unfold Func.isWrapper; first | (rw [if_pos (by decide +kernel)]; kernel_rfl) | (rw [if_neg (by decide +kernel)]; exact ⟨rfl, rfl⟩))
    (fun os started H enc _ => lifted os started H enc)

/-- ████ THE STATEMENT ████ -/
theorem proved : Rows.FnTruncateReadsBackToWindowSaid := over
#print axioms proved
end Go.Proofs.Qxb6600212aMods.fnTruncateReadsBackToWindow
