/-
  THE PROOF OF 'Rows.FnHex4RoundTripSaid', out of the seed's shell: the walk is filled; the row's step is the shell's own, with 'Below' in the place of 'Grown'. By an AI agent.
-/
import Derived.Test.Qxb6600601aModsRows
import Derived.WalkKit
import Derived.ProofKit
import Derived.OpenShut
import Derived.ShutString
import Derived.ChangeOld
import Derived.Below
import Derived.Test.Qxb6600601aModsHexWalks
import Derived.Test.Qxb6600601aModsBuf
import Derived.Test.Qxb6600601aModsTrip
namespace Go.Proofs.Qxb6600601aMods.fnHex4RoundTrip
open Go.ChangeShapes Go.WideShapes Go.ChangeAt Go.RowKit
open Go.ChangeMaps (open_string shut_string)
set_option linter.unusedVariables false      -- a walk need not use every 'w<i>' (that an integer argument fits its kind)

theorem own : ownKnob Trym.prog.godebug = none := by kernel_rfl

open Go.Proofs.Qxb6600601aMods.Hex Go.Proofs.Qxb6600601aMods.HexWalks Go.Proofs.Qxb6600601aMods.Buf Go.Proofs.Qxb6600601aMods.Trip

theorem bytes10 (a0 a1 : Int) (s : ByteArray) (w : World) (hs : s.size ≤ 1048576) :
    Calls Trym.prog 10 #[.int .u16 a0, .int .u8 a1, .string s] w fun e w' => e = .returned (.bool true) ∧ w' = w := by
  go_enter Trym.func10, Trym.ntmps10
  go_wp2
  go_ret
  exact ⟨rfl, rfl⟩

theorem early (a0 a1 : Int) (s : ByteArray) (w : World) (hm : s.size ≤ 9223372036854775807) (g1 : (1048576 : Int) < (s.size : Int)) :
    Calls Trym.prog 4 #[.int .u16 a0, .int .u8 a1, .string s] w fun e w' => e = .returned (.bool true) ∧ Below w.heap.size w w' := by
  go_enter Trym.func4, Trym.ntmps4
  go_wp2
  go_ret
  exact ⟨rfl, Below.refl _ _⟩

def loS : ByteArray := ⟨#[48, 49, 50, 51, 52, 53, 54, 55, 56, 57, 97, 98, 99, 100, 101, 102]⟩
def upS : ByteArray := ⟨#[48, 49, 50, 51, 52, 53, 54, 55, 56, 57, 65, 66, 67, 68, 69, 70]⟩

theorem lo_at : ∀ d, d < 16 → at0 loS d = loN d := by decide
theorem up_at : ∀ d, d < 16 → at0 upS d = upN d := by decide

theorem index_fact (H : ByteArray) (n : Nat) (h : n < H.size) (w : World) :
    (Instr.index 9 (.string H) (.int .i64 (n : Int))).run Trym.prog w = .ok (.int .u8 (at0 H n : Nat)) w := by
  rw [← at0_get H n h]
  simp [go_sem, h]

theorem index_lo (d : Nat) (h : d < 16) (w : World) : (Instr.index 9 (.string ⟨#[48, 49, 50, 51, 52, 53, 54, 55, 56, 57, 97, 98, 99, 100, 101, 102]⟩) (.int .i64 (d : Int))).run Trym.prog w = .ok (.int .u8 (loN d : Nat)) w := by
  have := index_fact loS d (by exact h) w
  rw [lo_at d h] at this
  exact this
theorem index_up (d : Nat) (h : d < 16) (w : World) : (Instr.index 9 (.string ⟨#[48, 49, 50, 51, 52, 53, 54, 55, 56, 57, 65, 66, 67, 68, 69, 70]⟩) (.int .i64 (d : Int))).run Trym.prog w = .ok (.int .u8 (upN d : Nat)) w := by
  have := index_fact upS d (by exact h) w
  rw [up_at d h] at this
  exact this

theorem and15 (v k : Nat) (hv : v < 65536) : bits .and .i64 ((v : Int) / 2 ^ (12 - 4 * k)) 15 = ((dv v k : Nat) : Int) := by
  have e : (v : Int) / 2 ^ (12 - 4 * k) = ((v / 2 ^ (12 - 4 * k) : Nat) : Int) := by
    rw [Int.natCast_ediv, Int.natCast_pow]; rfl
  have hl : v / 2 ^ (12 - 4 * k) < 65536 := Nat.lt_of_le_of_lt (Nat.div_le_self _ _) hv
  unfold dv
  rw [e]
  generalize v / 2 ^ (12 - 4 * k) = x at *
  have := bits_mask .i64 63 (by decide) (fun n h0 h1 => by rw [IntWalk.i64_left]; exact IntWalk.wrap64_in _ ⟨by omega, by omega⟩) 4 (by decide) (x : Int) (by omega) (by omega)
  rw [show ((2 : Int) ^ 4 - 1) = 15 from rfl] at this
  rw [this]
  omega

theorem le_div (v k : Nat) (hv : v < 65536) : (v : Int) / 2 ^ (12 - 4 * k) ≤ 65535 := by
  have e : (v : Int) / 2 ^ (12 - 4 * k) = ((v / 2 ^ (12 - 4 * k) : Nat) : Int) := by
    rw [Int.natCast_ediv, Int.natCast_pow]; rfl
  have hl : v / 2 ^ (12 - 4 * k) < 65536 := Nat.lt_of_le_of_lt (Nat.div_le_self _ _) hv
  rw [e]
  omega

theorem and1 (u k : Nat) (hu : u < 256) : bits .and .u8 ((u : Int) / 2 ^ k) 1 = ((u / 2 ^ k % 2 : Nat) : Int) := by
  have e : (u : Int) / 2 ^ k = ((u / 2 ^ k : Nat) : Int) := by
    rw [Int.natCast_ediv, Int.natCast_pow]; rfl
  have hl : u / 2 ^ k < 256 := Nat.lt_of_le_of_lt (Nat.div_le_self _ _) hu
  rw [e]
  generalize u / 2 ^ k = x at *
  have := u8_and_nat x 1 hl (by omega)
  rw [nat_mask1] at this
  exact this

set_option maxHeartbeats 400000 in
theorem whole (v u : Nat) (s : ByteArray) (w : World) (hv : v < 65536) (hu : u < 256) (hs : s.size ≤ 1048576) :
    Calls Trym.prog 4 #[.int .u16 v, .int .u8 u, .string s] w fun e w' => e = .returned (.bool true) ∧ Below w.heap.size w w' := by
  obtain ⟨W1, hmk, hbuf1, hbel1⟩ := make_buf w (6 + s.size) (by omega)
  rw [show (((6 + s.size : Nat)) : Int) = 6 + (s.size : Int) by omega] at hmk
  obtain ⟨W2, hap, hbuf2, hbel2⟩ := append_new W1 w.heap.size w.heap.size 0 (6 + s.size) 2 [] [92, 117] #[.int .u8 92, .int .u8 117] hbuf1 rfl rfl (by omega)
  have HBuf2 : Hid (Buf W2 w.heap.size w.heap.size 2 (6 + s.size) (pre v u 0)) := hbuf2
  have HB2 : Hid (Below w.heap.size w W2) := hbel1.trans hbel2
  have HAP := hide hap
  clear hbuf1 hbel1 hbuf2 hbel2 hap
  go_enter Trym.func4, Trym.ntmps4
  go_wp2_with (first | (go_at_call 10; refine (bytes10 _ _ _ _ hs).mono ?_; rintro e w8 ⟨rfl, h8⟩; obtain rfl := h8.symm) | (at_builtin; refine wpList_append_eq rfl (.tmp 22) (.tmp 23) 27 27 rfl _ _ _ _ HAP.out rfl rfl ?_))
  go_loopw [7, 8] (fun b i wr => ∃ k : Nat, k ≤ 4 ∧ i = .int .i64 k ∧ b = .slice (some ⟨w.heap.size, 0, none⟩) (2 + k) (6 + s.size) ∧ Buf wr w.heap.size w.heap.size (2 + k) (6 + s.size) (pre v u k) ∧ Below w.heap.size w wr) (fun _ i _ => 4 - (intOf i).toNat)
  case atStart => exact ⟨0, Nat.zero_le _, rfl, rfl, HBuf2.out, HB2.out⟩
  case round =>
    obtain ⟨k, hk, rfl, rfl, hbuf, hbel⟩ := hrel
    have HB := hide hbel
    have HF := hide hbuf
    clear hbel hbuf
    by_cases hlt : k < 4
    · obtain ⟨d, hd⟩ : ∃ d, d = dv v k := ⟨_, rfl⟩
      have hd16 : d < 16 := by rw [hd]; exact dv_lt v k
      have hand : bits .and .i64 ((v : Int) / 2 ^ (12 - 4 * k)) 15 = (d : Int) := by
        rw [hd]
        exact and15 v k hv
      have hq1 : (v : Int) / 2 ^ (12 - 4 * k) ≤ 65535 := le_div v k hv
      have hq0 : 0 ≤ (v : Int) / 2 ^ (12 - 4 * k) := Int.ediv_nonneg (by omega) (Int.le_of_lt (Int.pow_pos (by omega)))
      have hilo := index_lo d hd16
      have hiup := index_up d hd16
      have HD := hide hd
      clear hd
      by_cases hb : u / 2 ^ k % 2 = 1
      · have hbit : bits .and .u8 ((u : Int) / 2 ^ k) 1 = 1 := by rw [and1 u k hu, hb]; rfl
        have hce : (chr v u k).toNat = upN d := by rw [chr_up v u k hb, HD.out]
        obtain ⟨W3, hap3, hbuf3, hbel3⟩ := append_new wr w.heap.size w.heap.size (2 + k) (6 + s.size) 1 (pre v u k) [chr v u k] #[.int .u8 (upN d : Nat)] HF.out rfl (by rw [← hce]; rfl) (by omega)
        have HAP3 := hide hap3
        have HF3 : Hid (Buf W3 w.heap.size w.heap.size (2 + (k + 1)) (6 + s.size) (pre v u (k + 1))) := by rw [pre_succ]; exact hbuf3
        have HB3 := hide (HB.out.trans hbel3)
        clear hap3 hbuf3 hbel3 hce
        go_wp2_with (at_builtin; refine wpList_append_eq rfl (.tmp 43) (.tmp 46) 27 27 rfl _ _ _ _ HAP3.out rfl rfl ?_)
        go_roundw
        case rel => exact ⟨k + 1, by omega, by go_num, rfl, HF3.out, HB3.out⟩
        case measure => simp [intOf]; omega
      · have hbit : bits .and .u8 ((u : Int) / 2 ^ k) 1 = 0 := by rw [and1 u k hu, show u / 2 ^ k % 2 = 0 by omega]; rfl
        have hce : (chr v u k).toNat = loN d := by rw [chr_lo v u k hb, HD.out]
        obtain ⟨W3, hap3, hbuf3, hbel3⟩ := append_new wr w.heap.size w.heap.size (2 + k) (6 + s.size) 1 (pre v u k) [chr v u k] #[.int .u8 (loN d : Nat)] HF.out rfl (by rw [← hce]; rfl) (by omega)
        have HAP3 := hide hap3
        have HF3 : Hid (Buf W3 w.heap.size w.heap.size (2 + (k + 1)) (6 + s.size) (pre v u (k + 1))) := by rw [pre_succ]; exact hbuf3
        have HB3 := hide (HB.out.trans hbel3)
        clear hap3 hbuf3 hbel3 hce
        go_wp2_with (at_builtin; refine wpList_append_eq rfl (.tmp 48) (.tmp 51) 27 27 rfl _ _ _ _ HAP3.out rfl rfl ?_)
        go_roundw
        case rel => exact ⟨k + 1, by omega, by go_num, rfl, HF3.out, HB3.out⟩
        case measure => simp [intOf]; omega
    · obtain rfl : k = 4 := by omega
      obtain ⟨W3, hap3, hbuf3, hbel3⟩ := append_str wr w.heap.size w.heap.size (2 + 4) (6 + s.size) (pre v u 4) s HF.out (by omega)
      have hcv := to_string W3 w.heap.size w.heap.size (2 + 4 + s.size) (6 + s.size) (pre v u 4 ++ s.data.toList) hbuf3
      rw [show (⟨(pre v u 4 ++ s.data.toList).toArray⟩ : ByteArray) = text v u s from rfl] at hcv
      have hX := hex9 (text v u s) W3 (by rw [text_size]; omega)
      have HX := hide hX
      have HAP3 := hide hap3
      have HB3 := hide (HB.out.trans hbel3)
      have HA : Hid (∀ r, Answers (text v u s) r → r = (v : Nat)) := fun r hr => by
        rcases hr with ⟨_, _, hr⟩ | ⟨hr, _⟩
        · rw [hr, text_rv v u s hv]
        · exact absurd ⟨text_head v u s, text_good v u s⟩ hr
      clear hap3 hbuf3 hbel3 hX
      generalize text v u s = T at *
      go_wp2_with (at_builtin; refine wpList_append_eq rfl (.tmp 53) (.tmp 54) 27 9 rfl _ _ _ _ HAP3.out rfl rfl ?_)
      refine (Calls.mono HX.out ?_)
      rintro e w9 ⟨r, rfl, hr, hb9⟩
      obtain rfl := HA.out r hr
      have HB9 := hide (HB3.out.trans (hb9.mono HB3.out.size))
      clear hr hb9
      go_wp2
      go_ret
      exact ⟨rfl, HB9.out⟩

theorem walk (a0 : Int) (a1 : Int) (a2 : ByteArray) (w0 : (Lit.int .u16 a0).wf = true) (w1 : (Lit.int .u8 a1).wf = true) (w2 : a2.size ≤ maxLen) (w : World) :
    Calls Trym.prog 4 #[.int .u16 a0, .int .u8 a1, .string a2] w fun e w' => e = .returned (.bool true) ∧ Below w.heap.size w w' := by
  have b0 := bounds_u16 w0
  have b1 := bounds_u8 w1
  unfold maxLen at w2
  by_cases hE : (1048576 : Int) < (a2.size : Int)
  · exact early a0 a1 a2 w w2 hE
  · obtain ⟨v, rfl⟩ := Int.eq_ofNat_of_zero_le b0.1
    obtain ⟨u, rfl⟩ := Int.eq_ofNat_of_zero_le b1.1
    exact whole v u a2 w (by omega) (by omega) (by omega)

/-! ### THE ROW's STEP: WRITTEN OUT: LEAVE IT -/
set_option maxRecDepth 100000 in
theorem lifted (os : Os) (started : os.Started) (H : Type) (enc : TypeId × Value → H) :
    ReturnsInHanded {} Trym.checked os 4 .any (Rows.fnHex4RoundTripSpec.pre6 enc Trym.prog Trym.f4 Rows.fnHex4RoundTripRow.domain false) (Rows.fnHex4RoundTripSpec.post enc Trym.prog Trym.f4 false true false false) := by
  refine returnsInHanded_of_change (C := Trym.checked) own started (by kernel_rfl) Trym.func4
    (ChangeSpec.witness6 (enc := enc) (C := Trym.checked) false ⟨#[], #[.int .u16 0, .int .u8 0, .string ByteArray.empty], []⟩ 8 (by kernel_rfl) (by kernel_rfl) (by kernel_rfl) (by kernel_rfl)) ?_
  intro W base args ds gs before hval0 hW hcnd _
  have hval : ∀ (j : Nat) t v, Trym.f4.params[j]? = some t → args[j]? = some v → Value.okWide Trym.prog W .any base t v := hval0
  have hW' := hW
  obtain ⟨p, q, hA0, hV, rfl, hfz, hnd⟩ := hW
  have hA : DataW.TrodAll enc Trym.prog W 0 (fun _ => true) true Trym.f4.params.toList args.toList ds p := hA0
  rw [Trym.params4] at hA hval
  obtain ⟨v0, vs0, d0, ds0, p0, q0, hargs, rfl, rfl, h0, r0⟩ := trodAll_cons hA
  obtain ⟨v1, vs1, d1, ds1, p1, q1, rfl, rfl, rfl, h1, r1⟩ := trodAll_cons r0
  obtain ⟨v2, vs2, d2, ds2, p2, q2, rfl, rfl, rfl, h2, r2⟩ := trodAll_cons r1
  obtain ⟨rfl, rfl, rfl⟩ := trodAll_nil r2
  obtain rfl : args = #[v0, v1, v2] := by cases args; simp_all
  obtain ⟨rfl, rfl⟩ := trodVars_none hV
  obtain ⟨a0, rfl, rfl, rfl, w0⟩ := open_int Trym.underlying25 (hval 0 25 v0 rfl rfl) h0
  obtain ⟨a1, rfl, rfl, rfl, w1⟩ := open_int Trym.underlying5 (hval 1 5 v1 rfl rfl) h1
  obtain ⟨a2, rfl, rfl, rfl, w2⟩ := open_string Trym.underlying9 (hval 2 9 v2 rfl rfl) h2
  clear hA0 hval0
  refine (walk a0 a1 a2 w0 w1 w2 W).mono fun e W' ⟨he, bel⟩ => ?_
  subst he
  exact ⟨_, rfl, _, _, _, [], _, [], hW', trodAll_mk1 (shut_bool Trym.underlying4 _), (trodAll_cons_mk (shut_int Trym.underlying25 w0) (trodAll_cons_mk (shut_int Trym.underlying5 w1) (trodAll_cons_mk (shut_string Trym.underlying9 w2) trodAll_mk0))), rfl, bel.frame _, fun h => by cases h⟩

theorem over : Rows.fnHex4RoundTripRow.holds Trym.pinned (OpenSpec.ofChange Rows.fnHex4RoundTripSpec) :=
  OpenClaim.holds_of_wide 4 Trym.f4 rfl rfl rfl rfl rfl rfl rfl ⟨rfl, rfl, rfl, rfl, rfl⟩ rfl rfl rfl rfl rfl (by kernel_rfl) Trym.func4 (by kernel_rfl)
    (of_decide_eq_true (by kernel_rfl)) (by unfold Func.isWrapper; first | (rw [if_pos (by decide +kernel)]; kernel_rfl) | (rw [if_neg (by decide +kernel)]; exact ⟨rfl, rfl⟩))
    (fun os started H enc _ => lifted os started H enc)

/-- ████ THE STATEMENT ████ -/
theorem proved : Rows.FnHex4RoundTripSaid :=
  over
#print axioms proved
end Go.Proofs.Qxb6600601aMods.fnHex4RoundTrip
