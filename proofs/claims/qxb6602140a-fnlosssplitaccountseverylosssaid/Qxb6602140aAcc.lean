import Derived.Test.Qxb6602140aPlain
namespace Go.Proofs.Qxb6602140a.loss
open Go.RowKit

theorem zb12_yes (a : Option Addr) (len cap : Nat) (w : World) (h : len ≤ 1048576) :
    Calls Try.prog 12 #[.slice a len cap] w fun e w' => e = .returned (.bool true) ∧ w = w' := by
  have hd : decide ((1048576 : Int) < (len : Int)) = false := by simp; omega
  go_enter Try.func12, Try.ntmps12
  go_wp2
  go_ret
  exact ⟨rfl, rfl⟩
theorem zb12_no (a : Option Addr) (len cap : Nat) (w : World) (h : 1048576 < len) :
    Calls Try.prog 12 #[.slice a len cap] w fun e w' => e = .returned (.bool false) ∧ w = w' := by
  have hd : (1048576 : Int) < (len : Int) := by omega
  go_enter Try.func12, Try.ntmps12
  go_wp2
  go_ret
  exact ⟨rfl, rfl⟩

theorem acc_huge (a : Option Addr) (len cap : Nat) (w : World) (h : 1048576 < len) :
    Calls Try.prog 6 #[.slice a len cap] w fun e w' => e = .returned (.bool true) ∧ Below w.heap.size w w' := by
  go_enter Try.func6, Try.ntmps6
  go_wp2_with (go_at_call 12; refine (zb12_no a len cap _ h).mono ?_; rintro e w' ⟨rfl, rfl⟩)
  go_ret
  exact ⟨rfl, Below.refl _ _⟩

theorem acc_big (a : Option Addr) (len cap : Nat) (w : World) (h : len ≤ 1048576) (h2 : 65536 < len) :
    Calls Try.prog 6 #[.slice a len cap] w fun e w' => e = .returned (.bool true) ∧ Below w.heap.size w w' := by
  have hd : (65536 : Int) < (len : Int) := by omega
  go_enter Try.func6, Try.ntmps6
  go_wp2_with (go_at_call 12; refine (zb12_yes a len cap _ h).mono ?_; rintro e w' ⟨rfl, rfl⟩)
  go_ret
  exact ⟨rfl, Below.refl _ _⟩

theorem acc_none (a : Option Addr) (cap : Nat) (w : World) :
    Calls Try.prog 6 #[.slice a 0 cap] w fun e w' => e = .returned (.bool true) ∧ Below w.heap.size w w' := by
  go_enter Try.func6, Try.ntmps6
  go_wp2_with (go_at_call 12; refine (zb12_yes a 0 cap _ (by omega)).mono ?_; rintro e w' ⟨rfl, rfl⟩)
  refine wp_loop_rounds 1 ?_
  rw [rounds_succ]
  go_wp2
  go_ret
  exact ⟨rfl, (Below.refl _ _).alloc (Nat.le_refl _) _⟩

/-- What the walk is told of the slice of steps. -/
def Steps (w : World) (b off len : Nat) (R : Nat → Bool) (Q : Nat → Int) : Prop :=
  b < w.heap.size ∧ ∀ i, i < len → w.cell? ⟨b, off + i * 2, none⟩ = some (.bool (R i)) ∧ w.cell? ⟨b, off + i * 2 + 1, none⟩ = some (.int .u32 (Q i)) ∧ 0 ≤ Q i ∧ Q i ≤ 4294967295

theorem Keeps.cell {b : Nat} {w w' : World} (h : Keeps b w w') {k o : Nat} (hk : k < w.heap.size) (hb : k ≠ b) : w'.cell? ⟨k, o, none⟩ = w.cell? ⟨k, o, none⟩ :=
  World.cell?_of_block (w := w) (h.block k hk hb)

set_option maxHeartbeats 800000 in
theorem acc_some (b off len cap : Nat) (R : Nat → Bool) (Q : Nat → Int) (w : World) (hl : len ≤ 65536) (hst : Steps w b off len R Q) :
    Calls Try.prog 6 #[.slice (some ⟨b, off, none⟩) len cap] w fun e w' => e = .returned (.bool true) ∧ Below w.heap.size w w' := by
  obtain ⟨hbz, hst⟩ := hst
  have HST : Hid (∀ i, i < len → w.cell? ⟨b, off + i * 2, none⟩ = some (.bool (R i)) ∧ w.cell? ⟨b, off + i * 2 + 1, none⟩ = some (.int .u32 (Q i)) ∧ 0 ≤ Q i ∧ Q i ≤ 4294967295) := hst
  clear hst
  have hd : decide ((65536 : Int) < (len : Int)) = false := by simp; omega
  go_enter Try.func6, Try.ntmps6
  go_wp2_with (go_at_call 12; refine (zb12_yes _ len cap _ (by omega)).mono ?_; rintro e w' ⟨rfl, rfl⟩)
  go_loopw [4, 5, 6] (fun l p i wr => ∃ k : Nat, k ≤ len ∧ i = .int .i64 k ∧ l = .int .i64 (lostN R k) ∧ p = .int .i64 (run R Q k).down ∧ Below w.heap.size w wr ∧ Has wr w.heap.size (run R Q k)) (fun _ _ i _ => len - (intOf i).toNat)
  case atStart => exact ⟨0, Nat.zero_le _, rfl, rfl, rfl, (Below.refl _ _).alloc (Nat.le_refl _) _, (MapKept.heap_alloc w _).1⟩
  case round =>
    obtain ⟨k, hk, rfl, rfl, rfl, hb, hh⟩ := hrel
    have hz := hh.lt
    by_cases hlt : k < len
    · obtain ⟨s0, s1, p1, p2, p3, p4, p5⟩ := step_facts R Q len hl (fun i hi => (HST.out i hi).2.2) k hlt
      obtain ⟨g0, g1, q0, q1⟩ := HST.out k hlt
      rw [← hb.cell (p := ⟨b, _, none⟩) hbz] at g0 g1
      have hl1 := lostN_le R k
      have hbz' : b < wr.heap.size := by omega
      cases hR : R k
      · rw [hR] at g0
        have e1 : Hid (run R Q (k + 1) = lost (run R Q k)) := by simp [Hid, run, hR]
        have e2 : Hid (lostN R (k + 1) = lostN R k + 1) := by simp [Hid, lostN, hR]
        rw [e2.out] at p4
        have t1 : spUp (run R Q (k + 1)) ≤ 100000 := by omega
        have t2 : (run R Q (k + 1)).down ≤ 100000 := by omega
        have t3 : spUnk (run R Q (k + 1)) ≤ 100000 := by omega
        have d1 : decide (spUp (run R Q (k + 1)) < 0) = false := by simpa using p1
        have d2 : decide ((run R Q (k + 1)).down < 0) = false := by simpa using p2
        have d3 : decide (spUnk (run R Q (k + 1)) < 0) = false := by simpa using p3
        have d4 : decide ((run R Q (k + 1)).down < (run R Q k).down) = false := by simpa using p5
        clear hR
        go_wp2_with (first
          | (go_at_call 9; refine (probe_lost w.heap.size (run R Q k) (Q k) _ (hh.alloc _) s0.mis0 s0.mis1).mono ?_; rintro e w1 ⟨rfl, hk1, hh1⟩; rw [← e1.out] at hh1; have gs : w1.cell? ⟨wr.heap.size, 0, none⟩ = some (.bool false) := (hk1.cell (by simp) (by omega)).trans (by simp))
          | (go_at_call 10; refine (zzsplit_any w.heap.size _ _ hh1 s1).mono ?_; rintro e w2 ⟨rfl, m, rfl⟩)
          | (go_at_call 10; refine (zzsplit_any w.heap.size _ _ (hh1.drewN m) s1).mono ?_; rintro e w2 ⟨rfl, m2, rfl⟩))
        go_roundw
        case rel => exact ⟨k + 1, by omega, by go_num, by rw [e2.out], rfl, below_drewN (hk1.below (hb.alloc (by omega) _) (Nat.le_refl _) (by simp; omega)) _, hh1⟩
        case measure => simp [intOf]; omega
      · rw [hR] at g0
        have e1 : Hid (run R Q (k + 1) = reply (run R Q k) (Q k)) := by simp [Hid, run, hR]
        have e2 : Hid (lostN R (k + 1) = lostN R k) := by simp [Hid, lostN, hR]
        rw [e2.out] at p4
        have t1 : spUp (run R Q (k + 1)) ≤ 100000 := by omega
        have t2 : (run R Q (k + 1)).down ≤ 100000 := by omega
        have t3 : spUnk (run R Q (k + 1)) ≤ 100000 := by omega
        have d1 : decide (spUp (run R Q (k + 1)) < 0) = false := by simpa using p1
        have d2 : decide ((run R Q (k + 1)).down < 0) = false := by simpa using p2
        have d3 : decide (spUnk (run R Q (k + 1)) < 0) = false := by simpa using p3
        have d4 : decide ((run R Q (k + 1)).down < (run R Q k).down) = false := by simpa using p5
        clear hR
        go_wp2_with (first
          | (go_at_call 9; refine (probe_reply w.heap.size (run R Q k) (Q k) _ (hh.alloc _) s0 q0 q1).mono ?_; rintro e w1 ⟨rfl, hk1, hh1⟩; rw [← e1.out] at hh1; have gs : w1.cell? ⟨wr.heap.size, 0, none⟩ = some (.bool true) := (hk1.cell (by simp) (by omega)).trans (by simp))
          | (go_at_call 10; refine (zzsplit_any w.heap.size _ _ hh1 s1).mono ?_; rintro e w2 ⟨rfl, m, rfl⟩)
          | (go_at_call 10; refine (zzsplit_any w.heap.size _ _ (hh1.drewN m) s1).mono ?_; rintro e w2 ⟨rfl, m2, rfl⟩))
        go_roundw
        case rel => exact ⟨k + 1, by omega, by go_num, by rw [e2.out], rfl, below_drewN (hk1.below (hb.alloc (by omega) _) (Nat.le_refl _) (by simp; omega)) _, hh1⟩
        case measure => simp [intOf]; omega
    · go_wp2
      go_ret
      exact ⟨rfl, hb⟩

theorem acc_any (b off len cap : Nat) (R : Nat → Bool) (Q : Nat → Int) (w : World) (hst : Steps w b off len R Q) :
    Calls Try.prog 6 #[.slice (some ⟨b, off, none⟩) len cap] w fun e w' => e = .returned (.bool true) ∧ Below w.heap.size w w' := by
  by_cases h1 : 1048576 < len
  · exact acc_huge _ len cap w h1
  · by_cases h2 : 65536 < len
    · exact acc_big _ len cap w (by omega) h2
    · exact acc_some b off len cap R Q w (by omega) hst

end Go.Proofs.Qxb6602140a.loss
