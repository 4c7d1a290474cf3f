/-
  THE WALK OF next. By an AI agent.
-/
import Derived.Test.Qxb6600601aModsRows
import Derived.Test.Qxb6600601aModsHexWalks
import Derived.BigQuiet
import Derived.WalkSmall
namespace Go.Proofs.Qxb6600601aMods.ReadWalks
open Go.ChangeShapes Go.WideShapes Go.ChangeAt Go.RowKit
open Go.Proofs.Qxb6600601aMods.Hex Go.Proofs.Qxb6600601aMods.HexWalks

/-- White space. -/
def sp (c : Nat) : Prop := c = 32 ∨ c = 9 ∨ c = 10 ∨ c = 13

/-- THE READER in block R: its document D, its place p, its depth d; it has not failed; it records no members. -/
structure Rd (w : World) (R : Nat) (D : ByteArray) (p : Nat) (d : Int) : Prop where
  data : w.cell? ⟨R, 0, none⟩ = some (.string D)
  pos : w.cell? ⟨R, 2, none⟩ = some (.int .i64 (p : Int))
  depth : w.cell? ⟨R, 3, none⟩ = some (.int .i64 d)
  failed : w.cell? ⟨R, 4, none⟩ = some (.bool false)
  members : w.cell? ⟨R, 40, none⟩ = some (.slice none 0 0)
  thaw : ∀ o, w.frozen? ⟨R, o, none⟩ = false

theorem Rd.drewN {w : World} {R : Nat} {D : ByteArray} {p : Nat} {d : Int} (h : Rd w R D p d) (n : Nat) : Rd (w.drewN n) R D p d := ⟨h.data, h.pos, h.depth, h.failed, h.members, h.thaw⟩

theorem setCell_frozen (w : World) (a b : Addr) (v : Value) : (w.setCell a v).frozen? b = w.frozen? b := by
  unfold World.frozen? World.setCell
  simp only [Array.getElem?_modify]
  by_cases h : a.block = b.block
  · rw [if_pos h]
    cases w.heap[b.block]? with
    | none => rfl
    | some o => cases o <;> rfl
  · rw [if_neg h]

/-- The place is set anew. -/
theorem Rd.goto {w : World} {R : Nat} {D : ByteArray} {p : Nat} {d : Int} (h : Rd w R D p d) (q : Nat) (x : Int) (hx : x = (q : Int)) : Rd (w.setCell ⟨R, 2, none⟩ (.int .i64 x)) R D q d := by
  subst hx
  refine ⟨?_, ?_, ?_, ?_, ?_, fun o => ?_⟩
  · rw [World.cell?_setCell_other _ _ _ _ (by intro e; cases e)]; exact h.data
  · exact World.cell?_setCell_same _ _ _ h.pos
  · rw [World.cell?_setCell_other _ _ _ _ (by intro e; cases e)]; exact h.depth
  · rw [World.cell?_setCell_other _ _ _ _ (by intro e; cases e)]; exact h.failed
  · rw [World.cell?_setCell_other _ _ _ _ (by intro e; cases e)]; exact h.members
  · rw [setCell_frozen]; exact h.thaw o

theorem Rd.deepen {w : World} {R : Nat} {D : ByteArray} {p : Nat} {d : Int} (h : Rd w R D p d) (x : Int) : Rd (w.setCell ⟨R, 3, none⟩ (.int .i64 x)) R D p x := by
  refine ⟨?_, ?_, ?_, ?_, ?_, fun o => ?_⟩
  · rw [World.cell?_setCell_other _ _ _ _ (by intro e; cases e)]; exact h.data
  · rw [World.cell?_setCell_other _ _ _ _ (by intro e; cases e)]; exact h.pos
  · exact World.cell?_setCell_same _ _ _ h.depth
  · rw [World.cell?_setCell_other _ _ _ _ (by intro e; cases e)]; exact h.failed
  · rw [World.cell?_setCell_other _ _ _ _ (by intro e; cases e)]; exact h.members
  · rw [setCell_frozen]; exact h.thaw o

theorem meas {w w' : World} {R : Nat} {D : ByteArray} {k q : Nat} {d : Int} (h : Rd w R D k d) (h' : Rd w' R D (k + 1) d) (hlt : k < q) :
    q - (intOf ((w'.cell? ⟨R, 2, none⟩).getD undef)).toNat < q - (intOf ((w.cell? ⟨R, 2, none⟩).getD undef)).toNat := by
  rw [h.pos, h'.pos]
  simp only [Option.getD_some, intOf]
  omega

set_option maxHeartbeats 400000 in
theorem next22 (R : Nat) (D : ByteArray) (p q : Nat) (d : Int) (w : World) (hD : D.size ≤ 1048576) (hr : Rd w R D p d) (hpq : p ≤ q) (hq : q < D.size)
    (hsp : ∀ i, p ≤ i → i < q → sp (at0 D i)) (hc : ¬ sp (at0 D q)) :
    Calls Trym.prog 22 #[.pointer (some ⟨R, 0, none⟩)] w fun e w' => e = .returned (.int .u8 (at0 D q : Nat)) ∧ Rd w' R D q d ∧ Below R w w' := by
  go_enter Trym.func22, Trym.ntmps22
  go_wp2
  go_loopw [] (fun wr => ∃ k : Nat, p ≤ k ∧ k ≤ q ∧ Rd wr R D k d ∧ Below R w wr) (fun wr => q - (intOf ((wr.cell? ⟨R, 2, none⟩).getD undef)).toNat)
  case atStart => exact ⟨p, Nat.le_refl _, hpq, hr, Below.refl _ _⟩
  case round =>
    obtain ⟨k, hpk, hkq, hrd, hbel⟩ := hrel
    have HRd := hide hrd
    have HB := hide hbel
    obtain ⟨hdata, hpos, hdepth, hfailed, hmem, hthaw⟩ := hrd
    have hth2 := hthaw 2
    have hkD : k < D.size := by omega
    have hkD' : (k : Int) < (D.size : Int) := by omega
    clear hbel hdepth hfailed hmem hthaw hr
    obtain ⟨c, hce⟩ : ∃ c, c = at0 D k := ⟨_, rfl⟩
    have hcv : D[k].toNat = c := by rw [at0_get, hce]
    by_cases hlt : k < q
    · have hs := hsp k hpk hlt
      rw [← hce] at hs
      clear hsp hc hce
      rcases hs with rfl | rfl | rfl | rfl
      · go_wp2
        go_quiet (fail)
        go_wp2
        go_quiet (fail)
        go_wp2
        go_roundw
        case rel => exact ⟨k + 1, by omega, by omega, (HRd.out.drewN _).goto (k + 1) ((k : Int) + 1) (by omega), (below_drewN HB.out _).setCell (p := ⟨R, 2, none⟩) (Nat.le_refl _) _⟩
        case measure => exact meas HRd.out ((HRd.out.drewN _).goto (k + 1) ((k : Int) + 1) (by omega)) hlt
      · go_wp2
        go_quiet (fail)
        go_wp2
        go_quiet (fail)
        go_wp2
        go_roundw
        case rel => exact ⟨k + 1, by omega, by omega, (HRd.out.drewN _).goto (k + 1) ((k : Int) + 1) (by omega), (below_drewN HB.out _).setCell (p := ⟨R, 2, none⟩) (Nat.le_refl _) _⟩
        case measure => exact meas HRd.out ((HRd.out.drewN _).goto (k + 1) ((k : Int) + 1) (by omega)) hlt
      · go_wp2
        go_quiet (fail)
        go_wp2
        go_quiet (fail)
        go_wp2
        go_roundw
        case rel => exact ⟨k + 1, by omega, by omega, (HRd.out.drewN _).goto (k + 1) ((k : Int) + 1) (by omega), (below_drewN HB.out _).setCell (p := ⟨R, 2, none⟩) (Nat.le_refl _) _⟩
        case measure => exact meas HRd.out ((HRd.out.drewN _).goto (k + 1) ((k : Int) + 1) (by omega)) hlt
      · go_wp2
        go_quiet (fail)
        go_wp2
        go_quiet (fail)
        go_wp2
        go_roundw
        case rel => exact ⟨k + 1, by omega, by omega, (HRd.out.drewN _).goto (k + 1) ((k : Int) + 1) (by omega), (below_drewN HB.out _).setCell (p := ⟨R, 2, none⟩) (Nat.le_refl _) _⟩
        case measure => exact meas HRd.out ((HRd.out.drewN _).goto (k + 1) ((k : Int) + 1) (by omega)) hlt
    · obtain rfl : k = q := by omega
      rw [← hce] at hc
      have HCe := hide hce
      have HN := hide hc
      have n1 : ((c : Int) != 32) = true := by rw [bne_iff_ne]; intro e; exact HN.out (.inl (by omega))
      have n2 : ((c : Int) != 9) = true := by rw [bne_iff_ne]; intro e; exact HN.out (.inr (.inl (by omega)))
      have n3 : ((c : Int) != 10) = true := by rw [bne_iff_ne]; intro e; exact HN.out (.inr (.inr (.inl (by omega))))
      have n4 : ((c : Int) != 13) = true := by rw [bne_iff_ne]; intro e; exact HN.out (.inr (.inr (.inr (by omega))))
      clear hsp hc hce
      by_cases hg : 32 < c
      · go_wp2
        go_quiet (fail)
        go_wp2
        go_quiet (fail)
        go_wp2
        go_ret
        exact ⟨ret_int (by rw [HCe.out]), HRd.out.drewN _, below_drewN HB.out _⟩
      · go_wp2
        go_quiet (fail)
        go_wp2
        go_quiet (fail)
        go_wp2
        go_ret
        exact ⟨ret_int (by rw [HCe.out]), HRd.out.drewN _, below_drewN HB.out _⟩

end Go.Proofs.Qxb6600601aMods.ReadWalks
