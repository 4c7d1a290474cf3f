/-
  THE WALK OF FnBoolArrayRoundTrip, where it comes to its work. By an AI agent.
-/
import Derived.Test.Qxb6600601aModsSteps
import Derived.Test.Qxb6600601aModsBuf
import Derived.Deep.Grids
import Derived.Deep.OwnRows
import Derived.Laws.CopyRow
import Derived.Laws.CopyOwn
import Derived.WalkSpells
import Derived.Deep.DeepCutAuto
import Derived.Test.Qxb6600601aModsBoolParts
import Derived.Test.Qxb6600601aModsChain
namespace Go.Proofs.Qxb6600601aMods.BoolWalks
open Go.ChangeShapes Go.WideShapes Go.ChangeAt Go.RowKit
open Go.Proofs.Qxb6600601aMods.Hex Go.Proofs.Qxb6600601aMods.HexWalks Go.Proofs.Qxb6600601aMods.Buf Go.Proofs.Qxb6600601aMods.ReadWalks Go.Proofs.Qxb6600601aMods.ReadWalks2 Go.Proofs.Qxb6600601aMods.Text Go.Proofs.Qxb6600601aMods.Steps Go.Proofs.Qxb6600601aMods.BoolParts Go.Proofs.Qxb6600601aMods.Chain

/-- What is known of the slice that came in: nil, or cells. -/
def IsBools (w : World) (a : Option Addr) (len : Nat) (V : Nat → Bool) : Prop := (a = none ∧ len = 0) ∨ ∃ x, a = some x ∧ ∀ i, i < len → w.cell? (x.add i) = some (.bool (V i))

/-- What is known of it behind the copy. -/
def Copied (w : World) (v : Value) (len : Nat) (V : Nat → Bool) (G : Nat) : Prop := ∃ a cap, v = .slice a len cap ∧ (0 < len → a = some ⟨G, 0, none⟩) ∧ VRow w G len V

/-- Not all of ws is white space, or it is: the first loop. -/
def allSp (s : ByteArray) (k : Nat) : Prop := ∀ i, i < k → sp (at0 s i)

theorem fin {w wc We W5 w6 : World} (h1 : Below w.heap.size w wc) (h2 : Below wc.heap.size wc We) (h3 : Below We.heap.size We W5) (h4 : Below We.heap.size W5 w6) : Below w.heap.size w w6 := by
  have s1 := h1.size
  have s2 := h2.size
  exact ((h1.trans (h2.mono s1)).trans (h3.mono (by omega))).trans (h4.mono (by omega))

theorem mul_cast (len n M : Nat) (h : len * (6 + 2 * n) = M) : (len : Int) * (6 + 2 * (n : Int)) = (M : Int) := by
  rw [← h, Int.natCast_mul, Int.natCast_add, Int.natCast_mul]
  rfl

set_option maxRecDepth 100000 in
set_option maxHeartbeats 1600000 in
theorem whole (a : Option Addr) (len cap M : Nat) (s : ByteArray) (V : Nat → Bool) (w : World) (hl : len ≤ 4096) (hs : s.size ≤ 4096) (hMulN : len * (6 + 2 * s.size) = M) (h : 2 + s.size + M ≤ 1048576) (hv : IsBools w a len V) :
    Calls Trym.prog 6 #[.slice a len cap, .string s] w fun e w' => e = .returned (.bool true) ∧ Below w.heap.size w w' := by
  have hneq : ∀ wx, (binOp .neq 36 (.slice a len cap) (.slice none 0 0)).run Trym.prog wx = .ok (.bool (!a.isNone)) wx := fun wx => Go.run_neq_slice_nil_any wx 36 4 a len cap 0 0 Trym.underlying36
  have hMul : (len : Int) * (6 + 2 * (s.size : Int)) = (M : Int) := mul_cast len s.size M hMulN
  have HMN := hide hMulN
  have HV := hide hv
  clear hv hMulN
  go_enter Trym.func6, Trym.ntmps6
  go_wp2_with (go_at_call 19; refine (bytes19 _ _ _ _ _ hl hs).mono ?_; rintro e w8 ⟨rfl, h8⟩; obtain rfl := h8.symm)
  go_loop [5] (fun i => ∃ k : Nat, k ≤ s.size ∧ i = .int .i64 k ∧ allSp s k) (fun i => s.size - (intOf i).toNat)
  case atStart => exact ⟨0, Nat.zero_le _, rfl, fun i hi => by omega⟩
  case round =>
    obtain ⟨k, hk, rfl, hall⟩ := hrel
    have HA := hide hall
    clear hall
    by_cases hlt : k < s.size
    · obtain ⟨c, hce⟩ : ∃ c, c = at0 s k := ⟨_, rfl⟩
      have hcv : s[k].toNat = c := by rw [at0_get, hce]
      have HCe := hide hce
      clear hce
      by_cases hsp : sp c
      · have HS := hide (space_yes c w hsp)
        have HA1 : Hid (allSp s (k + 1)) := fun i hi => by
          by_cases e : i < k
          · exact HA.out i e
          · obtain rfl : i = k := by omega
            rw [← HCe.out]; exact hsp
        clear hsp
        go_wp2_with fail
        refine (Calls.mono HS.out ?_)
        rintro e w8 ⟨rfl, h8⟩
        obtain rfl := h8.symm
        go_wp2_with fail
        go_round
        case rel => exact ⟨k + 1, by omega, by go_num, HA1.out⟩
        case measure => simp [intOf]; omega
      · have HS := hide (space_no c w hsp)
        clear hsp
        go_wp2_with fail
        refine (Calls.mono HS.out ?_)
        rintro e w8 ⟨rfl, h8⟩
        obtain rfl := h8.symm
        go_wp2_with fail
        go_ret
        exact ⟨rfl, Below.refl _ _⟩
    · obtain rfl : k = s.size := by omega
      go_upto_if 51 with fail
      go_cut [0, 6] (fun v0 v6 wx => ∃ G, Copied wx v0 len V G ∧ Below w.heap.size w wx)
      case first =>
        rcases HV.out with ⟨rfl, rfl⟩ | ⟨x, rfl, hcx⟩
        · go_wp2_with fail
          go_meet
          case rel => exact ⟨0, ⟨none, cap, rfl, fun h => by omega, fun i hi => by omega⟩, Below.refl _ _⟩
        · obtain ⟨Z, W2, hmk, hcp, hvr, hb2⟩ := make_copy x len cap V w hl hcx
          have HVR := hide hvr
          have HB2 := hide hb2
          clear hvr hb2 hcx
          go_wp2_with fail
          go_meet
          case rel => exact ⟨w.heap.size, ⟨_, _, rfl, fun _ => rfl, HVR.out⟩, HB2.out⟩
      case rest =>
        obtain ⟨G, ⟨a', cap', rfl, ha', hvr⟩, hbel⟩ := hcut
        have HVR := hide hvr
        have HB := hide hbel
        have HAP := hide ha'
        clear hvr hbel ha' hneq
        obtain ⟨C, hC⟩ : ∃ C, C = 2 + s.size + M := ⟨_, rfl⟩
        have hCi : (2 : Int) + (s.size : Int) + (M : Int) = (C : Int) := by omega
        have hCb : C ≤ 1048576 := by omega
        obtain ⟨g, hg⟩ : ∃ g, g = wc.heap.size := ⟨_, rfl⟩
        obtain ⟨W1, hmk, hbuf1, hbel1⟩ := make_buf wc C (by omega)
        obtain ⟨W2, hap2, hbuf2, hbel2⟩ := append_new W1 wc.heap.size wc.heap.size 0 C 1 [] [91] #[.int .u8 91] hbuf1 rfl rfl (by omega)
        obtain ⟨W3, hap3, hbuf3, hbel3⟩ := append_str W2 wc.heap.size wc.heap.size (0 + 1) C ([] ++ [91]) s hbuf2 (by omega)
        have hbel3' := (hbel1.trans hbel2).trans hbel3
        rw [← hg] at hmk hap2 hap3 hbuf3 hbel3'
        have HAP2 := hide hap2
        have HAP3 := hide hap3
        obtain ⟨L, hL⟩ : ∃ L, L = s.data.toList := ⟨_, rfl⟩
        have HBuf3 : Hid (Buf W3 g g (1 + s.size) C (cont L V 0)) := by
          rw [hL]
          simp only [Nat.zero_add, List.nil_append] at hbuf3
          exact hbuf3
        have HB3 := hide hbel3'
        have HG := hide hg
        have hLs : L.length = s.size := by rw [hL]; simp
        have HRoom : Hid (∀ k, k < len → (cont L V (k + 1)).length < C) := fun k hk => room L V len k M C hk (by rw [hLs]; exact HMN.out) (by rw [hLs]; exact hC)
        have HRoomE : Hid ((cont L V len).length < C) := by
          have h1 := cont_len L V len
          rw [hLs] at h1
          have h2 := HMN.out
          show (cont L V len).length < C
          omega
        have HLsp : Hid (∀ x ∈ L, spc x.toNat) := fun x hx => by
          obtain ⟨i, hi, rfl⟩ := List.getElem_of_mem hx
          have h1 := HA.out i (by omega)
          have h2 : at0 s i = (L[i]).toNat := by
            unfold at0
            rw [← hL, List.getD_eq_getElem?_getD, List.getElem?_eq_getElem hi]
            rfl
          rw [← h2]
          exact h1
        have HL := hide hL
        have HCell : Hid (∀ wx k, Below g wc wx → k < len → wx.cell? ⟨G, k, none⟩ = some (.bool (V k))) := fun wx k hb hk => by
          have h1 := HVR.out k hk
          have h2 : G < wc.heap.size := World.block_lt_of_cell? wc ⟨G, k, none⟩ h1
          exact (hb.cell (p := ⟨G, k, none⟩) (by rw [hg]; exact h2)).trans h1
        clear hL hLs
        clear hap2 hap3 hbuf1 hbuf2 hbuf3 hbel1 hbel2 hbel3 hbel3' hg hC h
        go_wp2_with (first | (at_builtin; refine wpList_append_eq rfl (.tmp 71) (.tmp 72) 27 27 rfl _ _ _ _ HAP2.out rfl rfl ?_) | (at_builtin; refine wpList_append_eq rfl (.tmp 74) (.tmp 75) 27 9 rfl _ _ _ _ HAP3.out rfl rfl ?_))
        go_loopw [7, 8] (fun b i wr => ∃ k m : Nat, k ≤ len ∧ i = .int .i64 k ∧ b = .slice (some ⟨g, 0, none⟩) m C ∧ Buf wr g g m C (cont L V k) ∧ Below g wc wr) (fun _ i _ => len - (intOf i).toNat)
        case atStart => exact ⟨0, 1 + s.size, Nat.zero_le _, rfl, rfl, HBuf3.out, HB3.out⟩
        case round =>
          obtain ⟨k, m, hk, rfl, rfl, hbr, hlr⟩ := hrel
          have HBr := hide hbr
          have HLr := hide hlr
          clear hbr hlr
          by_cases hlt : k < len
          · obtain rfl : a' = some ⟨G, 0, none⟩ := HAP.out (by omega)
            by_cases hk0 : k = 0
            · subst hk0
              cases hVk : V 0
              · obtain ⟨Wx1, Wx2, e1, e2, hbx, hlx⟩ := chain0 wr g m C L s ⟨#[102, 97, 108, 115, 101]⟩ V HL.out (by rw [hVk]; rfl) HBr.out (Nat.le_of_lt (HRoom.out 0 hlt))
                have hck := HCell.out wr 0 HLr.out hlt
                rw [hVk] at hck
                have HE1 := hide e1
                have HE2 := hide e2
                have HBx := hide hbx
                have HLx := hide (HLr.out.trans hlx)
                clear e1 e2 hbx hlx hVk
                go_wp2_with (first | (at_builtin; refine wpList_append_eq rfl (.tmp 97) (.const (.string ⟨#[102, 97, 108, 115, 101]⟩)) 27 9 rfl _ _ _ _ HE1.out rfl rfl ?_) | (at_builtin; refine wpList_append_eq rfl (.tmp 99) (.tmp 100) 27 9 rfl _ _ _ _ HE2.out rfl rfl ?_))
                go_roundw
                case rel => exact ⟨1, _, by omega, by go_num, rfl, HBx.out, HLx.out⟩
                case measure => simp [intOf]; omega
              · obtain ⟨Wx1, Wx2, e1, e2, hbx, hlx⟩ := chain0 wr g m C L s ⟨#[116, 114, 117, 101]⟩ V HL.out (by rw [hVk]; rfl) HBr.out (Nat.le_of_lt (HRoom.out 0 hlt))
                have hck := HCell.out wr 0 HLr.out hlt
                rw [hVk] at hck
                have HE1 := hide e1
                have HE2 := hide e2
                have HBx := hide hbx
                have HLx := hide (HLr.out.trans hlx)
                clear e1 e2 hbx hlx hVk
                go_wp2_with (first | (at_builtin; refine wpList_append_eq rfl (.tmp 95) (.const (.string ⟨#[116, 114, 117, 101]⟩)) 27 9 rfl _ _ _ _ HE1.out rfl rfl ?_) | (at_builtin; refine wpList_append_eq rfl (.tmp 99) (.tmp 100) 27 9 rfl _ _ _ _ HE2.out rfl rfl ?_))
                go_roundw
                case rel => exact ⟨1, _, by omega, by go_num, rfl, HBx.out, HLx.out⟩
                case measure => simp [intOf]; omega
            · cases hVk : V k
              · obtain ⟨Wxa, Wxb, Wx1, Wx2, ea, eb, e1, e2, hbx, hlb, hlx⟩ := chain1 wr g m C k L s ⟨#[102, 97, 108, 115, 101]⟩ V HL.out hk0 (by rw [hVk]; rfl) HBr.out (Nat.le_of_lt (HRoom.out k hlt))
                have hck := HCell.out Wxb k (HLr.out.trans hlb) hlt
                have HEa := hide ea
                have HEb := hide eb
                have hkp : (0 : Int) < (k : Int) := by omega
                clear ea eb hlb hk0
                rw [hVk] at hck
                have HE1 := hide e1
                have HE2 := hide e2
                have HBx := hide hbx
                have HLx := hide (HLr.out.trans hlx)
                clear e1 e2 hbx hlx hVk
                go_wp2_with (first | (at_builtin; refine wpList_append_eq rfl (.tmp 85) (.tmp 86) 27 27 rfl _ _ _ _ HEa.out rfl rfl ?_) | (at_builtin; refine wpList_append_eq rfl (.tmp 88) (.tmp 89) 27 9 rfl _ _ _ _ HEb.out rfl rfl ?_) | (at_builtin; refine wpList_append_eq rfl (.tmp 97) (.const (.string ⟨#[102, 97, 108, 115, 101]⟩)) 27 9 rfl _ _ _ _ HE1.out rfl rfl ?_) | (at_builtin; refine wpList_append_eq rfl (.tmp 99) (.tmp 100) 27 9 rfl _ _ _ _ HE2.out rfl rfl ?_))
                go_roundw
                case rel => exact ⟨k + 1, _, by omega, by go_num, rfl, HBx.out, HLx.out⟩
                case measure => simp [intOf]; omega
              · obtain ⟨Wxa, Wxb, Wx1, Wx2, ea, eb, e1, e2, hbx, hlb, hlx⟩ := chain1 wr g m C k L s ⟨#[116, 114, 117, 101]⟩ V HL.out hk0 (by rw [hVk]; rfl) HBr.out (Nat.le_of_lt (HRoom.out k hlt))
                have hck := HCell.out Wxb k (HLr.out.trans hlb) hlt
                have HEa := hide ea
                have HEb := hide eb
                have hkp : (0 : Int) < (k : Int) := by omega
                clear ea eb hlb hk0
                rw [hVk] at hck
                have HE1 := hide e1
                have HE2 := hide e2
                have HBx := hide hbx
                have HLx := hide (HLr.out.trans hlx)
                clear e1 e2 hbx hlx hVk
                go_wp2_with (first | (at_builtin; refine wpList_append_eq rfl (.tmp 85) (.tmp 86) 27 27 rfl _ _ _ _ HEa.out rfl rfl ?_) | (at_builtin; refine wpList_append_eq rfl (.tmp 88) (.tmp 89) 27 9 rfl _ _ _ _ HEb.out rfl rfl ?_) | (at_builtin; refine wpList_append_eq rfl (.tmp 95) (.const (.string ⟨#[116, 114, 117, 101]⟩)) 27 9 rfl _ _ _ _ HE1.out rfl rfl ?_) | (at_builtin; refine wpList_append_eq rfl (.tmp 99) (.tmp 100) 27 9 rfl _ _ _ _ HE2.out rfl rfl ?_))
                go_roundw
                case rel => exact ⟨k + 1, _, by omega, by go_num, rfl, HBx.out, HLx.out⟩
                case measure => simp [intOf]; omega
          · obtain rfl : len = k := by omega
            obtain ⟨We, hape, hbufe, hbele⟩ := append_new wr g g m C 1 (cont L V len) [93] #[.int .u8 93] HBr.out rfl rfl (by have h1 := HRoomE.out; have h2 : (cont L V len).length = m := HBr.out.1; omega)
            have hcv : (convert 27 9 (.slice (some ⟨g, 0, none⟩) (m + 1) C)).run Trym.prog We = .ok (.string (doc L V len)) We := to_string We g g (m + 1) C (cont L V len ++ [93]) hbufe
            have hDs : (doc L V len).size ≤ 1048576 := by rw [doc_size]; have := HRoomE.out; omega
            have hN := new12 (doc L V len) We
            obtain ⟨D, hD⟩ : ∃ D, D = doc L V len := ⟨_, rfl⟩
            rw [← hD] at hcv hDs hN
            have hle : g ≤ We.heap.size := by have h1 := HLr.out.size; have h2 := hbele.size; have h3 := HG.out; omega
            obtain ⟨R, hR⟩ : ∃ R, R = We.heap.size := ⟨_, rfl⟩
            rw [← hR] at hN hle
            have HN := hide hN
            have HAPe := hide hape
            have HBe := hide (HLr.out.trans hbele)
            have HD := hide hD
            have HR := hide hR
            clear hape hbufe hbele hN hD hR hlt hk
            go_wp2_with (at_builtin; refine wpList_append_eq rfl (.tmp 102) (.tmp 103) 27 27 rfl _ _ _ _ HAPe.out rfl rfl ?_)
            refine (Calls.mono HN.out ?_)
            rintro e W5 ⟨rfl, hrd5, hb5⟩
            have HRd5 : Hid (Rd W5 R D (eP L V 0) 1) := by
              have h0 : eP L V 0 = 1 := by simp [eP, cont]
              show Rd W5 R D (eP L V 0) 1
              rw [h0]
              exact hrd5
            have HB5 := hide hb5
            clear hrd5 hb5
            go_wp2_with fail
            go_loopw [11, 12, 13] (fun n f i wr => ∃ (k : Nat) (b : Bool), k ≤ len ∧ b = decide (k = 0) ∧ n = .int .i64 k ∧ f = .bool b ∧ i = .int .i64 k ∧ Rd wr R D (eP L V k) 1 ∧ Below R W5 wr) (fun _ _ i _ => len + 1 - (intOf i).toNat)
            case atStart => exact ⟨0, true, Nat.zero_le _, rfl, rfl, rfl, rfl, HRd5.out, Below.refl _ _⟩
            case round =>
              obtain ⟨k, b, hk, hbe, rfl, rfl, rfl, hrd, hbr⟩ := hrel
              have HRd := hide hrd
              have HBr3 := hide hbr
              have Hbe := hide hbe
              clear hrd hbr hbe
              by_cases hlt : k < len
              · obtain rfl : a' = some ⟨G, 0, none⟩ := HAP.out (by omega)
                have hM : Calls Trym.prog 15 #[.pointer (some ⟨R, 0, none⟩), .bool b, .int .u8 93] wr fun e w' => e = .returned (.bool true) ∧ Rd w' R D (mP L V k) 1 ∧ Below R wr w' := by
                  have h1 := HRd.out
                  have h2 := hDs
                  rw [Hbe.out]
                  rw [HD.out] at h1 h2 ⊢
                  exact more_step R L V len k wr h2 HLsp.out hlt h1
                have HM := hide hM
                have HBo : Hid (∀ wx, Rd wx R D (mP L V k) 1 → Calls Trym.prog 14 #[.pointer (some ⟨R, 0, none⟩)] wx fun e w' => e = .returned (.bool (V k)) ∧ Rd w' R D (eP L V (k + 1)) 1 ∧ Below R wx w') := fun wx h1 => by
                  have h2 := hDs
                  rw [HD.out] at h1 h2 ⊢
                  exact bool_step R L V len k wx h2 HLsp.out hlt h1
                clear hM
                go_wp2_with fail
                refine (Calls.mono HM.out ?_)
                rintro e w6 ⟨rfl, hrd6, hb6⟩
                have HRd6 := hide hrd6
                have HB6 := hide (HBr3.out.trans hb6)
                clear hrd6 hb6
                go_wp2_with fail
                refine (Calls.mono (HBo.out w6 HRd6.out) ?_)
                rintro e w7 ⟨rfl, hrd7, hb7⟩
                have HRd7 := hide hrd7
                have HB7 := hide (HB6.out.trans hb7)
                have hck := HCell.out w7 k ((HBe.out.trans (HB5.out.mono hle)).trans (HB7.out.mono hle)) hlt
                generalize V k = v at *
                clear hrd7 hb7
                go_wp2_with fail
                go_roundw
                case rel => exact ⟨k + 1, false, by omega, by simp, by go_num, rfl, by go_num, HRd7.out, HB7.out⟩
                case measure => simp [intOf]; omega
              · obtain rfl : len = k := by omega
                have hM : Calls Trym.prog 15 #[.pointer (some ⟨R, 0, none⟩), .bool b, .int .u8 93] wr fun e w' => e = .returned (.bool false) ∧ Rd w' R D D.size 0 ∧ Below R wr w' := by
                  have h1 := HRd.out
                  have h2 := hDs
                  rw [HD.out] at h1 h2 ⊢
                  exact more_last R L V len b wr h2 HLsp.out h1
                have HM := hide hM
                clear hM
                go_wp2_with fail
                refine (Calls.mono HM.out ?_)
                rintro e w6 ⟨rfl, hrd6, hb6⟩
                have HRd6 := hide hrd6
                have HB6 := hide (HBr3.out.trans hb6)
                clear hrd6 hb6
                go_wp2_with (first | (go_at_call 16; refine (failed16 R D D.size 0 w6 HRd6.out).mono ?_; rintro e w8 ⟨rfl, h8⟩; obtain rfl := h8.symm) | (go_at_call 17; refine (pos17 R D D.size 0 w6 HRd6.out).mono ?_; rintro e w8 ⟨rfl, h8⟩; obtain rfl := h8.symm) | (go_at_call 18; refine (depth18 R D D.size 0 w6 HRd6.out).mono ?_; rintro e w8 ⟨rfl, h8⟩; obtain rfl := h8.symm))
                go_ret
                exact ⟨rfl, fin HB.out (by rw [← HG.out]; exact HBe.out) (by rw [← HR.out]; exact HB5.out) (by rw [← HR.out]; exact HB6.out)⟩

end Go.Proofs.Qxb6600601aMods.BoolWalks
