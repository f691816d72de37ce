import Derived.Test.Qxb6602140aOpen
namespace Go.Proofs.Qxb6602140a.loss
open Go.RowKit

theorem zb13_yes (a : Option Addr) (len cap : Nat) (k : Int) (w : World) (h : len ≤ 1048576) :
    Calls Try.prog 13 #[.slice a len cap, .int .i64 k] w fun e w' => e = .returned (.bool true) ∧ w = w' := by
  have hd : decide ((1048576 : Int) < (len : Int)) = false := by simp; omega
  go_enter Try.func13, Try.ntmps13
  go_wp2
  go_ret
  exact ⟨rfl, rfl⟩
theorem zb13_no (a : Option Addr) (len cap : Nat) (k : Int) (w : World) (h : 1048576 < len) :
    Calls Try.prog 13 #[.slice a len cap, .int .i64 k] w fun e w' => e = .returned (.bool false) ∧ w = w' := by
  have hd : (1048576 : Int) < (len : Int) := by omega
  go_enter Try.func13, Try.ntmps13
  go_wp2
  go_ret
  exact ⟨rfl, rfl⟩

theorem trail_huge (a : Option Addr) (len cap : Nat) (k : Int) (w : World) (h : 1048576 < len) :
    Calls Try.prog 7 #[.slice a len cap, .int .i64 k] w fun e w' => e = .returned (.bool true) ∧ Below w.heap.size w w' := by
  go_enter Try.func7, Try.ntmps7
  go_wp2_with (go_at_call 13; refine (zb13_no a len cap k _ h).mono ?_; rintro e w' ⟨rfl, rfl⟩)
  go_ret
  exact ⟨rfl, Below.refl _ _⟩

theorem trail_big (a : Option Addr) (len cap : Nat) (k : Int) (w : World) (h : len ≤ 1048576) (h2 : 65536 < len) :
    Calls Try.prog 7 #[.slice a len cap, .int .i64 k] w fun e w' => e = .returned (.bool true) ∧ Below w.heap.size w w' := by
  have hd : (65536 : Int) < (len : Int) := by omega
  go_enter Try.func7, Try.ntmps7
  go_wp2_with (go_at_call 13; refine (zb13_yes a len cap k _ h).mono ?_; rintro e w' ⟨rfl, rfl⟩)
  go_ret
  exact ⟨rfl, Below.refl _ _⟩

theorem trail_neg (a : Option Addr) (len cap : Nat) (k : Int) (w : World) (h : len ≤ 65536) (h2 : k < 0) :
    Calls Try.prog 7 #[.slice a len cap, .int .i64 k] w fun e w' => e = .returned (.bool true) ∧ Below w.heap.size w w' := by
  have hd : decide ((65536 : Int) < (len : Int)) = false := by simp; omega
  go_enter Try.func7, Try.ntmps7
  go_wp2_with (go_at_call 13; refine (zb13_yes a len cap k _ (by omega)).mono ?_; rintro e w' ⟨rfl, rfl⟩)
  go_ret
  exact ⟨rfl, Below.refl _ _⟩

theorem trail_long (a : Option Addr) (len cap : Nat) (k : Int) (w : World) (h : len ≤ 65536) (h2 : 65536 < k) :
    Calls Try.prog 7 #[.slice a len cap, .int .i64 k] w fun e w' => e = .returned (.bool true) ∧ Below w.heap.size w w' := by
  have hd : decide ((65536 : Int) < (len : Int)) = false := by simp; omega
  have hd2 : decide (k < 0) = false := by simp; omega
  go_enter Try.func7, Try.ntmps7
  go_wp2_with (go_at_call 13; refine (zb13_yes a len cap k _ (by omega)).mono ?_; rintro e w' ⟨rfl, rfl⟩)
  go_ret
  exact ⟨rfl, Below.refl _ _⟩

/-- j lost probes more. -/
def lostK (s : LS) (j : Int) : LS := ⟨s.up, s.down, s.unk, s.mis + j, s.ans, s.last, s.uns, s.sa⟩
theorem lostK_zero (s : LS) : lostK s 0 = s := by simp [lostK]
theorem lostK_succ (s : LS) (j : Int) : lost (lostK s j) = lostK s (j + 1) := by simp [lostK, lost, Int.add_assoc]
theorem lostK_up (s : LS) (j : Int) : spUp (lostK s j) = spUp s := rfl
theorem lostK_unk (s : LS) (j : Int) : spUnk (lostK s j) = spUnk s + j := by
  obtain ⟨up, down, unk, mis, ans, last, uns, sa⟩ := s
  cases sa <;> simp [lostK, spUnk] <;> omega
theorem lostK_sum {s : LS} {t : Int} (h : Sum s t) (j : Int) (hj : 0 ≤ j) : Sum (lostK s j) (t + j) := by
  obtain ⟨a, b, c, d, e, f, g, i⟩ := h
  refine ⟨?_, ?_, ?_, ?_, ?_, ?_, ?_, ?_⟩ <;> simp only [lostK] <;> omega

/-- From the split of the run on: the second loop and the end. -/
theorem lostK_down (s : LS) (j : Int) : (lostK s j).down = s.down := rfl

set_option maxHeartbeats 800000 in
theorem trail_some (a : Option Addr) (len cap K : Nat) (R : Nat → Bool) (Q : Nat → Int) (w : World) (hl : len ≤ 65536) (hK : K ≤ 65536) (hst : len = 0 ∨ ∃ b off, a = some ⟨b, off, none⟩ ∧ Steps w b off len R Q) :
    Calls Try.prog 7 #[.slice a len cap, .int .i64 K] w fun e w' => e = .returned (.bool true) ∧ Below w.heap.size w w' := by
  have hQ : Hid (∀ i, i < len → 0 ≤ Q i ∧ Q i ≤ 4294967295) := by
    intro i hi
    rcases hst with h | ⟨b, off, _, _, hst⟩
    · omega
    · exact (hst i hi).2.2
  have hd : decide ((65536 : Int) < (len : Int)) = false := by simp; omega
  have hd2 : decide ((K : Int) < 0) = false := by simp
  have hd3 : decide ((65536 : Int) < (K : Int)) = false := by simp; omega
  have HST := show Hid _ from hst
  clear hst
  go_enter Try.func7, Try.ntmps7
  go_wp2_with (go_at_call 13; refine (zb13_yes _ len cap K _ (by omega)).mono ?_; rintro e w' ⟨rfl, rfl⟩)
  go_loopw [6] (fun i wr => ∃ k : Nat, k ≤ len ∧ i = .int .i64 k ∧ Below w.heap.size w wr ∧ Has wr w.heap.size (run R Q k)) (fun i _ => len - (intOf i).toNat)
  case atStart => exact ⟨0, Nat.zero_le _, rfl, (Below.refl _ _).alloc (Nat.le_refl _) _, (MapKept.heap_alloc w _).1⟩
  case round =>
    obtain ⟨k, hk, rfl, hb, hh⟩ := hrel
    have hz := hh.lt
    have hsum := run_sum R Q len hQ.out k hk
    have hln := lostN_le R k
    have s0 := hsum.small (by omega)
    by_cases hlt : k < len
    · rcases HST.out with h | ⟨b, off, ha, hbz, hst⟩
      · omega
      obtain ⟨g0, g1, q0, q1⟩ := hst k hlt
      clear hst
      rw [← hb.cell (p := ⟨b, _, none⟩) hbz] at g0 g1
      have hbz' : b < wr.heap.size := by omega
      subst ha
      cases hR : R k
      · rw [hR] at g0
        have e1 : Hid (run R Q (k + 1) = lost (run R Q k)) := by simp [Hid, run, hR]
        clear hR
        go_wp2_with (go_at_call 9; refine (probe_lost w.heap.size (run R Q k) (Q k) _ (hh.alloc _) s0.mis0 s0.mis1).mono ?_; rintro e w1 ⟨rfl, hk1, hh1⟩)
        go_roundw
        case rel => exact ⟨k + 1, by omega, by go_num, hk1.below (hb.alloc (by omega) _) (Nat.le_refl _) (by simp; omega), by rw [e1.out]; exact hh1⟩
        case measure => simp [intOf]; omega
      · rw [hR] at g0
        have e1 : Hid (run R Q (k + 1) = reply (run R Q k) (Q k)) := by simp [Hid, run, hR]
        clear hR
        go_wp2_with (go_at_call 9; refine (probe_reply w.heap.size (run R Q k) (Q k) _ (hh.alloc _) s0 q0 q1).mono ?_; rintro e w1 ⟨rfl, hk1, hh1⟩)
        go_roundw
        case rel => exact ⟨k + 1, by omega, by go_num, hk1.below (hb.alloc (by omega) _) (Nat.le_refl _) (by simp; omega), by rw [e1.out]; exact hh1⟩
        case measure => simp [intOf]; omega
    · generalize run R Q k = s at *
      have sp := sp_sum hsum
      have dn := hsum.down0
      have v1 : 0 ≤ spUnk s := sp.2.1
      have v2 : spUnk s ≤ 100000 := by omega
      clear sp dn
      go_wp2_with (go_at_call 10; refine (zzsplit_any w.heap.size _ _ hh s0).mono ?_; rintro e w2 ⟨rfl, m, rfl⟩)
      go_loopw [11] (fun i wx => ∃ j : Nat, j ≤ K ∧ i = .int .i64 j ∧ Below w.heap.size w wx ∧ Has wx w.heap.size (lostK s j)) (fun i _ => K - (intOf i).toNat)
      case atStart => exact ⟨0, Nat.zero_le _, rfl, below_drewN hb _, by rw [show ((0 : Nat) : Int) = 0 from rfl, lostK_zero]; exact hh.drewN m⟩
      case round =>
        obtain ⟨j, hj, rfl, hb2, hh2⟩ := hrel
        have hz2 := hh2.lt
        have hsum2 := lostK_sum hsum j (by omega)
        have s2 := hsum2.small (by omega)
        by_cases hjt : j < K
        · go_wp2_with (go_at_call 9; refine (probe_lost w.heap.size _ 0 _ hh2 s2.mis0 s2.mis1).mono ?_; rintro e w1 ⟨rfl, hk1, hh1⟩)
          go_roundw
          case rel => exact ⟨j + 1, by omega, by go_num, hk1.below hb2 (Nat.le_refl _) (by omega), by rw [lostK_succ] at hh1; exact hh1⟩
          case measure => simp [intOf]; omega
        · obtain rfl : j = K := by omega
          have u1 := lostK_up s j
          have u2 := lostK_unk s j
          have u3 := lostK_down s j
          go_wp2_with (go_at_call 10; refine (zzsplit_any w.heap.size _ _ hh2 s2).mono ?_; rintro e w2 ⟨rfl, m2, rfl⟩)
          go_ret
          exact ⟨rfl, below_drewN hb2 _⟩

theorem trail_any (a : Option Addr) (len cap : Nat) (k : Int) (R : Nat → Bool) (Q : Nat → Int) (w : World) (hst : len = 0 ∨ ∃ b off, a = some ⟨b, off, none⟩ ∧ Steps w b off len R Q) :
    Calls Try.prog 7 #[.slice a len cap, .int .i64 k] w fun e w' => e = .returned (.bool true) ∧ Below w.heap.size w w' := by
  by_cases h1 : 1048576 < len
  · exact trail_huge a len cap k w h1
  by_cases h2 : 65536 < len
  · exact trail_big a len cap k w (by omega) h2
  by_cases h3 : k < 0
  · exact trail_neg a len cap k w (by omega) h3
  by_cases h4 : 65536 < k
  · exact trail_long a len cap k w (by omega) h4
  obtain ⟨K, rfl⟩ := Int.eq_ofNat_of_zero_le (show 0 ≤ k by omega)
  exact trail_some a len cap K R Q w (by omega) (by omega) hst
end Go.Proofs.Qxb6602140a.loss
