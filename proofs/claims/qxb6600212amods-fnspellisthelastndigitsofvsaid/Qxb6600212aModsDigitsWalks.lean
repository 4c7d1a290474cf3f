/-
  THE WALKS OF distinctBytes, indexOf, lastDigits. By an AI agent.
-/
import Derived.Test.Qxb6600212aModsSpellWalks
import Derived.Test.Qxb6600212aModsDigits
namespace Go.Proofs.Qxb6600212aMods.DigitsWalks
open Go.ChangeShapes Go.WideShapes Go.ChangeAt Go.RowKit
open Go.Proofs.Qxb6600212aMods.Spell Go.Proofs.Qxb6600212aMods.SpellWalks Go.Proofs.Qxb6600212aMods.Digits

theorem bytes15 (a0 : Int) (s : ByteArray) (a2 : Int) (w : World) (hs : s.size ≤ 1048576) :
    Calls Trym.prog 15 #[.int .u64 a0, .string s, .int .i64 a2] w fun e w' => e = .returned (.bool true) ∧ w' = w := by
  go_enter Trym.func15, Trym.ntmps15
  go_wp2
  go_ret
  exact ⟨rfl, rfl⟩

theorem ret_int {k : IntKind} {a b : Int} (h : a = b) : Ending.returned (.int k a) = .returned (.int k b) := by rw [h]

set_option maxHeartbeats 400000 in
/-- indexOf finds the first place. -/
theorem index17 (s : ByteArray) (b : Int) (j : Nat) (w : World) (hs : s.size ≤ 1048576) (hj : j < s.size) (hb : b = ((at0 s j).toNat : Int)) (hd : ∀ i, i < j → ((at0 s i).toNat : Int) ≠ b) :
    Calls Trym.prog 17 #[.string s, .int .u8 b] w fun e w' => e = .returned (.int .i64 (j : Nat)) ∧ w' = w := by
  have HB := hide hb
  have HD := hide hd
  clear hb hd
  go_enter Trym.func17, Trym.ntmps17
  go_wp2
  go_loop [5] (fun i => ∃ k : Nat, k ≤ j ∧ i = .int .i64 k) (fun i => s.size - (intOf i).toNat)
  case atStart => exact ⟨0, Nat.zero_le _, rfl⟩
  case round =>
    obtain ⟨k, hk, rfl⟩ := hrel
    have hks : k < s.size := by omega
    by_cases hlt : k < j
    · have hne : ((s[k].toNat : Int) == b) = false := beq_eq_false_iff_ne.2 (by rw [at0_get]; exact HD.out k hlt)
      go_wp2
      go_round
      case rel => exact ⟨k + 1, by omega, by go_num⟩
      case measure => simp [intOf]; omega
    · obtain rfl : k = j := by omega
      have hne : ((s[k].toNat : Int) == b) = true := beq_iff_eq.2 (by rw [at0_get]; exact HB.out.symm)
      go_wp2
      go_ret
      exact ⟨rfl, rfl⟩

theorem mul_round (b k p : Nat) (hp : p = b ^ k) (h : b ^ k * b < 18446744073709551616) : IntKind.u64.wrap ((p : Int) * (b : Int)) = ((b ^ (k + 1) : Nat) : Int) := by
  rw [IntKind.wrap_u64, ← Int.natCast_mul, Nat.pow_succ, hp]
  generalize b ^ k * b = x at *
  omega

set_option maxHeartbeats 400000 in
/-- lastDigits is v mod b^n. -/
theorem last18 (v b n R : Nat) (w : World) (hv : v < 18446744073709551616) (hb0 : 0 < b) (hb : b ≤ 256) (hn : n ≤ 65536) (hR : R = v % b ^ n) :
    Calls Trym.prog 18 #[.int .u64 v, .int .u64 b, .int .i64 n] w fun e w' => e = .returned (.int .u64 (R : Nat)) ∧ w' = w := by
  have HR := hide hR
  clear hR
  go_enter Trym.func18, Trym.ntmps18
  go_wp2
  go_loop [7, 8] (fun p i => ∃ k : Nat, k ≤ n ∧ i = .int .i64 k ∧ p = .int .u64 ((b ^ k : Nat) : Int) ∧ b ^ k < 18446744073709551616) (fun _ i => n - (intOf i).toNat)
  case atStart => exact ⟨0, Nat.zero_le _, rfl, by simp, by simp⟩
  case round =>
    obtain ⟨k, hk, rfl, rfl, hp⟩ := hrel
    have hpp : 0 < b ^ k := Nat.pow_pos hb0
    by_cases hlt : k < n
    · by_cases hst : (18446744073709551615 : Int) / (b : Int) < ((b ^ k : Nat) : Int)
      · have hfin := pow_stop b v n k hb0 hlt hv hst
        rw [← HR.out] at hfin
        have HF := hide hfin
        clear hfin
        generalize b ^ k = p at *
        go_wp2
        go_ret
        exact ⟨ret_int (by rw [HF.out]), rfl⟩
      · have HG := hide (pow_go b k hb0 hst)
        obtain ⟨p, hpe⟩ : ∃ p, p = b ^ k := ⟨_, rfl⟩
        rw [← hpe] at hst hp hpp ⊢
        have HE := hide hpe
        clear hpe
        go_wp2
        go_round
        case rel => exact ⟨k + 1, by omega, by go_num, by rw [mul_round b k p HE.out HG.out], by rw [Nat.pow_succ]; exact HG.out⟩
        case measure => simp [intOf]; omega
    · obtain rfl : k = n := by omega
      obtain ⟨p, hpe⟩ : ∃ p, p = b ^ k := ⟨_, rfl⟩
      rw [← hpe] at hp hpp ⊢
      have HE := hide hpe
      clear hpe
      go_wp2
      go_ret
      exact ⟨ret_int (by rw [HR.out, ← HE.out]; exact (Int.natCast_emod _ _).symm), rfl⟩

theorem zero38 (w : World) : (zeroValue 38).run Trym.prog w = .ok (.agg (Array.replicate 256 (.bool false))) w := by kernel_rfl

/-- Has byte c been met among the first k? -/
def seenB (s : ByteArray) (k c : Nat) : Bool := (List.range k).any fun i => (at0 s i).toNat == c

theorem seen_succ (s : ByteArray) (k c x : Nat) (hc : c = (at0 s k).toNat) (_hx : x < 256) :
    (if x = c then Value.bool true else Value.bool (seenB s k x)) = Value.bool (seenB s (k + 1) x) := by
  unfold seenB
  rw [List.range_succ, List.any_append]
  by_cases e : x = c
  · rw [if_pos e]
    simp [e, hc]
  · rw [if_neg e]
    have : ((at0 s k).toNat == x) = false := beq_eq_false_iff_ne.2 (fun h => e (by rw [hc, h]))
    simp [this]

theorem inj_succ (s : ByteArray) (k c : Nat) (hc : c = (at0 s k).toNat) (hb : seenB s k c = false) (h : ∀ i j, i < j → j < k → at0 s i ≠ at0 s j) :
    ∀ i j, i < j → j < k + 1 → at0 s i ≠ at0 s j := by
  intro i j hij hj
  by_cases e : j < k
  · exact h i j hij e
  · obtain rfl : j = k := by omega
    unfold seenB at hb
    rw [List.any_eq_false] at hb
    have := hb i (by simpa using hij)
    intro g
    apply this
    rw [hc, g]
    simp

set_option maxHeartbeats 400000 in
theorem dist16 (s : ByteArray) (w : World) (hs : s.size ≤ 256) :
    Calls Trym.prog 16 #[.string s] w fun e w' => ∃ b : Bool, e = .returned (.bool b) ∧ (b = true → ∀ i j, i < j → j < s.size → at0 s i ≠ at0 s j) ∧ Below w.heap.size w w' := by
  obtain ⟨Z, hZ⟩ : ∃ Z, Z = Array.replicate 256 (Value.bool false) := ⟨_, rfl⟩
  have hz : ∀ w, (zeroValue 38).run Trym.prog w = .ok (.agg Z) w := by rw [hZ]; exact zero38
  have hrow0 : (w.alloc (.cells Z 38)).rowIs w.heap.size 38 256 (fun c => .bool (seenB s 0 c)) := by
    have := World.rowIs_alloc w Z 38 (fun c => .bool (seenB s 0 c)) (fun i hi => by subst hZ; simp at hi; simp [hi, seenB])
    have hsz : Z.size = 256 := by rw [hZ]; simp
    rw [hsz] at this
    exact this
  have HR0 := hide hrow0
  have HB0 : Hid (Below w.heap.size w (w.alloc (.cells Z 38))) := (Below.refl _ _).alloc (Nat.le_refl _) _
  clear hZ hrow0
  go_enter Trym.func16, Trym.ntmps16
  go_wp2
  go_loopw [4] (fun i wr => ∃ k : Nat, k ≤ s.size ∧ i = .int .i64 k ∧ wr.rowIs w.heap.size 38 256 (fun c => .bool (seenB s k c)) ∧ (∀ i j, i < j → j < k → at0 s i ≠ at0 s j) ∧ Below w.heap.size w wr) (fun i _ => s.size - (intOf i).toNat)
  case atStart => exact ⟨0, Nat.zero_le _, rfl, HR0.out, fun i j h1 h2 => by omega, HB0.out⟩
  case round =>
    obtain ⟨k, hk, rfl, hrow, hinj, hbel⟩ := hrel
    have HR := hide hrow
    have HB := hide hbel
    have HI := hide hinj
    clear hbel hinj
    by_cases hlt : k < s.size
    · obtain ⟨c, hc⟩ : ∃ c, c = (at0 s k).toNat := ⟨_, rfl⟩
      have hce : s[k].toNat = c := by rw [at0_get, hc]
      have hc256 : c < 256 := by rw [hc]; exact UInt8.toNat_lt _
      have hcell := hrow.cell (i := c) hc256
      have hfr := hrow.frozen c
      have hlt2 := hrow.lt
      have HC := hide hc
      clear hrow hc
      cases hb : seenB s k c
      · rw [hb] at hcell
        have HS := hide hb
        clear hb
        go_wp2
        go_roundw
        case rel => exact ⟨k + 1, by omega, by go_num, (HR.out.set _ _).congr (fun x hx => seen_succ s k c x HC.out hx), inj_succ s k c HC.out HS.out HI.out, HB.out.setCell (Nat.le_refl _) _⟩
        case measure => simp [intOf]; omega
      · rw [hb] at hcell
        clear hb
        go_wp2
        go_ret
        exact ⟨false, rfl, fun h => (by cases h), HB.out⟩
    · clear hrow
      go_wp2
      go_ret
      exact ⟨true, rfl, fun _ i j h1 h2 => HI.out i j h1 (by omega), HB.out⟩

end Go.Proofs.Qxb6600212aMods.DigitsWalks
