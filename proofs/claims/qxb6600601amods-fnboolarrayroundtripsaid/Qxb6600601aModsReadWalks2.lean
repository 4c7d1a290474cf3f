/-
  THE WALKS OF HasPrefix, literal, Bool, more AND THE SHIMS. By an AI agent.
-/
import Derived.Test.Qxb6600601aModsReadWalks
import Derived.BigQuiet
import Derived.WalkSmall
import Derived.Deep.Heap
namespace Go.Proofs.Qxb6600601aMods.ReadWalks2
open Go.ChangeShapes Go.WideShapes Go.ChangeAt Go.RowKit
open Go.Proofs.Qxb6600601aMods.Hex Go.Proofs.Qxb6600601aMods.HexWalks Go.Proofs.Qxb6600601aMods.ReadWalks

theorem prefix26 (s pre : ByteArray) (w : World) (_hs : s.size ≤ 1048576) (h1 : pre.size ≤ s.size) (h2 : s.extract 0 pre.size = pre) :
    Calls Trym.prog 26 #[.string s, .string pre] w fun e w' => e = .returned (.bool true) ∧ w' = w := by
  have h3 : (pre.size : Int) ≤ (s.size : Int) := by omega
  go_enter Trym.func26, Trym.ntmps26
  go_wp2
  go_ret
  exact ⟨rfl, rfl⟩

theorem prefix25 (s pre : ByteArray) (w : World) (hs : s.size ≤ 1048576) (h1 : pre.size ≤ s.size) (h2 : s.extract 0 pre.size = pre) :
    Calls Trym.prog 25 #[.string s, .string pre] w fun e w' => e = .returned (.bool true) ∧ w' = w := by
  go_enter Trym.func25, Trym.ntmps25
  go_wp2_with fail
  refine (prefix26 s pre w hs h1 h2).mono ?_
  rintro e w8 ⟨rfl, h8⟩
  obtain rfl := h8.symm
  go_wp2
  go_ret
  exact ⟨rfl, rfl⟩

set_option maxHeartbeats 400000 in
theorem literal23 (R : Nat) (D word : ByteArray) (p : Nat) (d : Int) (w : World) (hD : D.size ≤ 1048576) (hr : Rd w R D p d) (hp : p + word.size ≤ D.size)
    (hw : (D.extract p D.size).extract 0 word.size = word) :
    Calls Trym.prog 23 #[.pointer (some ⟨R, 0, none⟩), .string word] w fun e w' => e = .returned (.tuple #[]) ∧ Rd w' R D (p + word.size) d ∧ Below R w w' := by
  have hpre : ∀ wx, Calls Trym.prog 25 #[.string (D.extract p D.size), .string word] wx fun e w' => e = .returned (.bool true) ∧ w' = wx := fun wx =>
    prefix25 (D.extract p D.size) word wx (by simp; omega) (by simp; omega) hw
  have HP := hide hpre
  have HRd := hide hr
  obtain ⟨hdata, hpos, hdepth, hfailed, hmem, hthaw⟩ := hr
  have hth2 := hthaw 2
  have hpD : (p : Int) ≤ (D.size : Int) := by omega
  clear hdepth hfailed hmem hthaw hw hpre
  go_enter Trym.func23, Trym.ntmps23
  go_wp2
  go_quiet ((go_at_call 25; exact Calls.quiet_of_same (HP.out _)))
  go_wp2
  go_end0
  exact ⟨rfl, (HRd.out.drewN _).goto (p + word.size) ((p : Int) + (word.size : Int)) (by omega), (below_drewN (Below.refl _ _) _).setCell (p := ⟨R, 2, none⟩) (Nat.le_refl _) _⟩

def trueW : ByteArray := ⟨#[116, 114, 117, 101]⟩
def falseW : ByteArray := ⟨#[102, 97, 108, 115, 101]⟩

set_option maxHeartbeats 400000 in
theorem bool_true (R : Nat) (D : ByteArray) (p q : Nat) (d : Int) (w : World) (hD : D.size ≤ 1048576) (hr : Rd w R D p d) (hpq : p ≤ q) (hq : q + 4 ≤ D.size)
    (hsp : ∀ i, p ≤ i → i < q → sp (at0 D i)) (hc : at0 D q = 116) (hw : (D.extract q D.size).extract 0 4 = trueW) :
    Calls Trym.prog 14 #[.pointer (some ⟨R, 0, none⟩)] w fun e w' => e = .returned (.bool true) ∧ Rd w' R D (q + 4) d ∧ Below R w w' := by
  have hN := next22 R D p q d w hD hr hpq (by omega) hsp (by rw [hc]; unfold sp; omega)
  rw [hc] at hN
  have HN := hide hN
  have HL : Hid (∀ wx, Rd wx R D q d → Calls Trym.prog 23 #[.pointer (some ⟨R, 0, none⟩), .string ⟨#[116, 114, 117, 101]⟩] wx fun e w' => e = .returned (.tuple #[]) ∧ Rd w' R D (q + 4) d ∧ Below R wx w') := fun wx h => literal23 R D trueW q d wx hD h hq hw
  clear hN hr hsp hc hw
  go_enter Trym.func14, Trym.ntmps14
  go_wp2_with fail
  refine (Calls.mono HN.out ?_)
  rintro e w1 ⟨rfl, hr1, hb1⟩
  have HR1 := hide hr1
  have HB1 := hide hb1
  clear hr1 hb1
  go_wp2_with fail
  refine (Calls.mono (HL.out w1 HR1.out) ?_)
  rintro e w2 ⟨rfl, hr2, hb2⟩
  have HR2 := hide hr2
  have HB2 := hide (HB1.out.trans hb2)
  clear hr2 hb2
  go_wp2
  go_ret
  exact ⟨rfl, HR2.out, HB2.out⟩

set_option maxHeartbeats 400000 in
theorem bool_false (R : Nat) (D : ByteArray) (p q : Nat) (d : Int) (w : World) (hD : D.size ≤ 1048576) (hr : Rd w R D p d) (hpq : p ≤ q) (hq : q + 5 ≤ D.size)
    (hsp : ∀ i, p ≤ i → i < q → sp (at0 D i)) (hc : at0 D q = 102) (hw : (D.extract q D.size).extract 0 5 = falseW) :
    Calls Trym.prog 14 #[.pointer (some ⟨R, 0, none⟩)] w fun e w' => e = .returned (.bool false) ∧ Rd w' R D (q + 5) d ∧ Below R w w' := by
  have hN := next22 R D p q d w hD hr hpq (by omega) hsp (by rw [hc]; unfold sp; omega)
  rw [hc] at hN
  have HN := hide hN
  have HL : Hid (∀ wx, Rd wx R D q d → Calls Trym.prog 23 #[.pointer (some ⟨R, 0, none⟩), .string ⟨#[102, 97, 108, 115, 101]⟩] wx fun e w' => e = .returned (.tuple #[]) ∧ Rd w' R D (q + 5) d ∧ Below R wx w') := fun wx h => literal23 R D falseW q d wx hD h hq hw
  clear hN hr hsp hc hw
  go_enter Trym.func14, Trym.ntmps14
  go_wp2_with fail
  refine (Calls.mono HN.out ?_)
  rintro e w1 ⟨rfl, hr1, hb1⟩
  have HR1 := hide hr1
  have HB1 := hide hb1
  clear hr1 hb1
  go_wp2_with fail
  refine (Calls.mono (HL.out w1 HR1.out) ?_)
  rintro e w2 ⟨rfl, hr2, hb2⟩
  have HR2 := hide hr2
  have HB2 := hide (HB1.out.trans hb2)
  clear hr2 hb2
  go_wp2
  go_ret
  exact ⟨rfl, HR2.out, HB2.out⟩

/-- 'more' comes to the end's byte. -/
theorem more_end (R : Nat) (D : ByteArray) (p q : Nat) (first : Bool) (w : World) (hD : D.size ≤ 1048576) (hr : Rd w R D p 1) (hpq : p ≤ q) (hq : q < D.size)
    (hsp : ∀ i, p ≤ i → i < q → sp (at0 D i)) (hc : at0 D q = 93) :
    Calls Trym.prog 24 #[.pointer (some ⟨R, 0, none⟩), .bool first, .int .u8 93] w fun e w' => e = .returned (.bool false) ∧ Rd w' R D (q + 1) 0 ∧ Below R w w' := by
  have hN := next22 R D p q 1 w hD hr hpq (by omega) hsp (by rw [hc]; unfold sp; omega)
  rw [hc] at hN
  have HN := hide hN
  obtain ⟨hdata, hpos, hdepth, hfailed, hmem, hthaw⟩ := hr
  clear hN hsp hc hdata hpos hfailed hthaw
  go_enter Trym.func24, Trym.ntmps24
  go_wp2_with fail
  refine (Calls.mono HN.out ?_)
  rintro e w1 ⟨rfl, hr1, hb1⟩
  have HR1 := hide hr1
  have HB1 := hide hb1
  obtain ⟨hdata1, hpos1, hdepth1, hfailed1, hmem1, hthaw1⟩ := hr1
  have ht2 := hthaw1 2
  have ht3 := hthaw1 3
  clear hb1 hdata1 hfailed1 hmem1 hthaw1 hdepth hmem
  go_wp2
  go_ret
  exact ⟨rfl, (HR1.out.goto (q + 1) ((q : Int) + 1) (by omega)).deepen 0, (HB1.out.setCell (p := ⟨R, 2, none⟩) (Nat.le_refl _) _).setCell (p := ⟨R, 3, none⟩) (Nat.le_refl _) _⟩

/-- 'more' ahead of the first member: the place stands at the member's first byte. -/
theorem more_first (R : Nat) (D : ByteArray) (p q : Nat) (w : World) (hD : D.size ≤ 1048576) (hr : Rd w R D p 1) (hpq : p ≤ q) (hq : q < D.size)
    (hsp : ∀ i, p ≤ i → i < q → sp (at0 D i)) (hns : ¬ sp (at0 D q)) (hc : at0 D q ≠ 93) :
    Calls Trym.prog 24 #[.pointer (some ⟨R, 0, none⟩), .bool true, .int .u8 93] w fun e w' => e = .returned (.bool true) ∧ Rd w' R D q 1 ∧ Below R w w' := by
  have hN := next22 R D p q 1 w hD hr hpq (by omega) hsp hns
  obtain ⟨c, hce⟩ : ∃ c, c = at0 D q := ⟨_, rfl⟩
  rw [← hce] at hN hc
  have HN := hide hN
  have hne : ((c : Int) == 93) = false := beq_eq_false_iff_ne.2 (by omega)
  obtain ⟨hdata, hpos, hdepth, hfailed, hmem, hthaw⟩ := hr
  clear hN hsp hns hc hce hdata hpos hfailed hthaw
  go_enter Trym.func24, Trym.ntmps24
  go_wp2_with fail
  refine (Calls.mono HN.out ?_)
  rintro e w1 ⟨rfl, hr1, hb1⟩
  have HR1 := hide hr1
  have HB1 := hide hb1
  obtain ⟨hdata1, hpos1, hdepth1, hfailed1, hmem1, hthaw1⟩ := hr1
  clear hb1 hdata1 hpos1 hdepth1 hmem1 hthaw1 hdepth hmem
  go_wp2
  go_ret
  exact ⟨rfl, HR1.out, HB1.out⟩

/-- 'more' behind a member: past the comma. -/
theorem more_comma (R : Nat) (D : ByteArray) (p q : Nat) (w : World) (hD : D.size ≤ 1048576) (hr : Rd w R D p 1) (hpq : p ≤ q) (hq : q < D.size)
    (hsp : ∀ i, p ≤ i → i < q → sp (at0 D i)) (hc : at0 D q = 44) :
    Calls Trym.prog 24 #[.pointer (some ⟨R, 0, none⟩), .bool false, .int .u8 93] w fun e w' => e = .returned (.bool true) ∧ Rd w' R D (q + 1) 1 ∧ Below R w w' := by
  have hN := next22 R D p q 1 w hD hr hpq (by omega) hsp (by rw [hc]; unfold sp; omega)
  rw [hc] at hN
  have HN := hide hN
  obtain ⟨hdata, hpos, hdepth, hfailed, hmem, hthaw⟩ := hr
  clear hN hsp hc hdata hpos hfailed hthaw
  go_enter Trym.func24, Trym.ntmps24
  go_wp2_with fail
  refine (Calls.mono HN.out ?_)
  rintro e w1 ⟨rfl, hr1, hb1⟩
  have HR1 := hide hr1
  have HB1 := hide hb1
  obtain ⟨hdata1, hpos1, hdepth1, hfailed1, hmem1, hthaw1⟩ := hr1
  have ht2 := hthaw1 2
  clear hb1 hdata1 hdepth1 hmem1 hthaw1 hdepth hmem
  go_wp2
  go_ret
  exact ⟨rfl, HR1.out.goto (q + 1) ((q : Int) + 1) (by omega), HB1.out.setCell (p := ⟨R, 2, none⟩) (Nat.le_refl _) _⟩

/-- The shim ZZMore: whatever is known of more. -/
theorem zzmore {R : Nat} {first : Bool} {w : World} {b : Bool} {Q : World → Prop}
    (h : Calls Trym.prog 24 #[.pointer (some ⟨R, 0, none⟩), .bool first, .int .u8 93] w fun e w' => e = .returned (.bool b) ∧ Q w') :
    Calls Trym.prog 15 #[.pointer (some ⟨R, 0, none⟩), .bool first, .int .u8 93] w fun e w' => e = .returned (.bool b) ∧ Q w' := by
  have H := hide h
  clear h
  go_enter Trym.func15, Trym.ntmps15
  go_wp2_with fail
  refine (Calls.mono H.out ?_)
  rintro e w1 ⟨rfl, hq⟩
  have HQ := hide hq
  clear hq
  go_wp2
  go_ret
  exact ⟨rfl, HQ.out⟩

theorem failed16 (R : Nat) (D : ByteArray) (p : Nat) (d : Int) (w : World) (hr : Rd w R D p d) :
    Calls Trym.prog 16 #[.pointer (some ⟨R, 0, none⟩)] w fun e w' => e = .returned (.bool false) ∧ w' = w := by
  have h := hr.failed
  clear hr
  go_enter Trym.func16, Trym.ntmps16
  go_wp2
  go_ret
  exact ⟨rfl, rfl⟩

theorem pos17 (R : Nat) (D : ByteArray) (p : Nat) (d : Int) (w : World) (hr : Rd w R D p d) :
    Calls Trym.prog 17 #[.pointer (some ⟨R, 0, none⟩)] w fun e w' => e = .returned (.int .i64 (p : Nat)) ∧ w' = w := by
  have h := hr.pos
  clear hr
  go_enter Trym.func17, Trym.ntmps17
  go_wp2
  go_ret
  exact ⟨rfl, rfl⟩

theorem depth18 (R : Nat) (D : ByteArray) (p : Nat) (d : Int) (w : World) (hr : Rd w R D p d) :
    Calls Trym.prog 18 #[.pointer (some ⟨R, 0, none⟩)] w fun e w' => e = .returned (.int .i64 d) ∧ w' = w := by
  have h := hr.depth
  clear hr
  go_enter Trym.func18, Trym.ntmps18
  go_wp2
  go_ret
  exact ⟨rfl, rfl⟩

theorem new12 (D : ByteArray) (w : World) :
    Calls Trym.prog 12 #[.string D, .int .i64 1, .int .i64 1] w fun e w' => e = .returned (.pointer (some ⟨w.heap.size, 0, none⟩)) ∧ Rd w' w.heap.size D 1 1 ∧ Below w.heap.size w w' := by
  go_enter Trym.func12, Trym.ntmps12
  go_wp2
  go_ret
  refine ⟨rfl, ⟨?_, ?_, ?_, ?_, ?_, fun o => ?_⟩, (Below.refl _ _).alloc (Nat.le_refl _) _⟩
  · rw [World.cell?_alloc_new]; rfl
  · rw [World.cell?_alloc_new]; rfl
  · rw [World.cell?_alloc_new]; rfl
  · rw [World.cell?_alloc_new]; rfl
  · rw [World.cell?_alloc_new]; rfl
  · unfold World.frozen?
    rw [Go.Deep.blk_alloc_new]
    simp

theorem space_yes (c : Nat) (w : World) (h : sp c) :
    Calls Trym.prog 20 #[.int .u8 (c : Int)] w fun e w' => e = .returned (.bool true) ∧ w' = w := by
  rcases h with rfl | rfl | rfl | rfl
  · go_enter Trym.func20, Trym.ntmps20
    go_wp2
    go_ret
    exact ⟨rfl, rfl⟩
  · go_enter Trym.func20, Trym.ntmps20
    go_wp2
    go_ret
    exact ⟨rfl, rfl⟩
  · go_enter Trym.func20, Trym.ntmps20
    go_wp2
    go_ret
    exact ⟨rfl, rfl⟩
  · go_enter Trym.func20, Trym.ntmps20
    go_wp2
    go_ret
    exact ⟨rfl, rfl⟩

theorem space_no (c : Nat) (w : World) (h : ¬ sp c) :
    Calls Trym.prog 20 #[.int .u8 (c : Int)] w fun e w' => e = .returned (.bool false) ∧ w' = w := by
  have n1 : ((c : Int) == 32) = false := beq_eq_false_iff_ne.2 (fun e => h (.inl (by omega)))
  have n2 : ((c : Int) == 9) = false := beq_eq_false_iff_ne.2 (fun e => h (.inr (.inl (by omega))))
  have n3 : ((c : Int) == 10) = false := beq_eq_false_iff_ne.2 (fun e => h (.inr (.inr (.inl (by omega)))))
  have n4 : ((c : Int) == 13) = false := beq_eq_false_iff_ne.2 (fun e => h (.inr (.inr (.inr (by omega)))))
  clear h
  go_enter Trym.func20, Trym.ntmps20
  go_wp2
  go_ret
  exact ⟨rfl, rfl⟩

end Go.Proofs.Qxb6600601aMods.ReadWalks2
