import Derived.Test.Qxb6602140aProbe
namespace Go.Proofs.Qxb6602140a.loss
open Go.RowKit

/-- Nothing but k lost probes. -/
def fresh (k : Int) : LS := ⟨0, 0, 0, k, false, 0, 0, false⟩
theorem fresh_small (k : Int) (h0 : 0 ≤ k) (h1 : k ≤ 1000000) : Small (fresh k) := by
  refine ⟨?_, ?_, ?_, ?_, ?_, ?_, ?_, ?_, ?_, ?_, ?_, ?_⟩ <;> simp [fresh] <;> omega
theorem fresh_lost (k : Int) : lost (fresh k) = fresh (k + 1) := rfl
theorem fresh_le (n s : Int) (h : s ≤ n) (h0 : 0 ≤ s) : reply (fresh n) s = ⟨0, s, 0, 0, true, s, n - s, false⟩ := by
  simp [reply, fresh, adv, rea, h, show (0 : Int) < s + 1 from by omega]
theorem fresh_gt (n s : Int) (h : n < s) (h0 : 0 ≤ s) : reply (fresh n) s = ⟨0, n, 0, 0, true, s, 0, false⟩ := by
  simp [reply, fresh, adv, rea, show ¬ s ≤ n from by omega, show (0 : Int) < s + 1 from by omega]

theorem Has.drewN {w : World} {b : Nat} {s : LS} (h : Has w b s) (n : Nat) : Has (w.drewN n) b s := h

/-- The law's walk behind the loop's start: the two outer tests say no. -/
theorem first_in (n : Nat) (s : Int) (w : World) (hn : n ≤ 65536) (hs0 : 0 ≤ s) (hs : s ≤ 4294967295) :
    Calls Try.prog 4 #[.int .i64 n, .int .u32 s] w fun e w' => e = .returned (.bool true) ∧ Below w.heap.size w w' := by
  have hd : decide ((n : Int) < 0) = false := by simp
  have hd2 : decide ((65536 : Int) < (n : Int)) = false := by simp; omega
  go_enter Try.func4, Try.ntmps4
  go_wp2
  go_loopw [6] (fun i wr => ∃ k : Nat, k ≤ n ∧ i = .int .i64 k ∧ Below w.heap.size w wr ∧ Has wr w.heap.size (fresh k)) (fun i _ => n - (intOf i).toNat)
  case atStart => exact ⟨0, Nat.zero_le _, rfl, (Below.refl _ _).alloc (Nat.le_refl _) _, (MapKept.heap_alloc w _).1⟩
  case round =>
    obtain ⟨k, hk, rfl, hb, hh⟩ := hrel
    have hz := hh.lt
    by_cases hlt : k < n
    · go_wp2_with (go_at_call 9; refine (probe_lost w.heap.size (fresh k) 0 _ hh (by simp [fresh]) (by simp [fresh]; omega)).mono ?_; rintro e w1 ⟨rfl, hk1, hh1⟩)
      go_roundw
      case rel => exact ⟨k + 1, by omega, by go_num, hk1.below hb (Nat.le_refl _) (by omega), by simpa [fresh_lost] using hh1⟩
      case measure => simp [intOf]; omega
    · obtain rfl : k = n := by omega
      by_cases hle : s ≤ k
      · have hS1 : Small ⟨0, s, 0, 0, true, s, k - s, false⟩ := by
          refine ⟨?_, ?_, ?_, ?_, ?_, ?_, ?_, ?_, ?_, ?_, ?_, ?_⟩ <;> dsimp only <;> omega
        have hu : spUp ⟨0, s, 0, 0, true, s, k - s, false⟩ = k - s := by simp [spUp]
        have hn : spUnk ⟨0, s, 0, 0, true, s, k - s, false⟩ = 0 := by simp [spUnk]
        by_cases hst : s < k
        · go_wp2_with (first
            | (go_at_call 9; refine (probe_reply w.heap.size (fresh k) s _ hh (fresh_small _ (by omega) (by omega)) hs0 hs).mono ?_; rintro e w1 ⟨rfl, hk1, hh1⟩; rw [fresh_le _ _ hle hs0] at hh1)
            | (go_at_call 10; refine (zzsplit_any w.heap.size _ _ hh1 hS1).mono ?_; rintro e w1 ⟨rfl, m, rfl⟩))
          go_ret
          exact ⟨rfl, below_drewN (hk1.below hb (Nat.le_refl _) (by omega)) _⟩
        · obtain rfl : s = k := by omega
          go_wp2_with (first
            | (go_at_call 9; refine (probe_reply w.heap.size (fresh k) k _ hh (fresh_small _ (by omega) (by omega)) hs0 hs).mono ?_; rintro e w1 ⟨rfl, hk1, hh1⟩; rw [fresh_le _ _ hle hs0] at hh1)
            | (go_at_call 10; refine (zzsplit_any w.heap.size _ _ hh1 hS1).mono ?_; rintro e w1 ⟨rfl, m, rfl⟩))
          go_ret
          exact ⟨rfl, below_drewN (hk1.below hb (Nat.le_refl _) (by omega)) _⟩
      · have hgt : (k : Int) < s := by omega
        have hS1 : Small ⟨0, k, 0, 0, true, s, 0, false⟩ := by
          refine ⟨?_, ?_, ?_, ?_, ?_, ?_, ?_, ?_, ?_, ?_, ?_, ?_⟩ <;> dsimp only <;> omega
        have hu : spUp ⟨0, k, 0, 0, true, s, 0, false⟩ = 0 := by simp [spUp]
        have hn : spUnk ⟨0, k, 0, 0, true, s, 0, false⟩ = 0 := by simp [spUnk]
        go_wp2_with (first
          | (go_at_call 9; refine (probe_reply w.heap.size (fresh k) s _ hh (fresh_small _ (by omega) (by omega)) hs0 hs).mono ?_; rintro e w1 ⟨rfl, hk1, hh1⟩; rw [fresh_gt _ _ hgt hs0] at hh1)
          | (go_at_call 10; refine (zzsplit_any w.heap.size _ _ hh1 hS1).mono ?_; rintro e w1 ⟨rfl, m, rfl⟩))
        go_ret
        exact ⟨rfl, below_drewN (hk1.below hb (Nat.le_refl _) (by omega)) _⟩

theorem first_neg (n s : Int) (w : World) (hn : n < 0) :
    Calls Try.prog 4 #[.int .i64 n, .int .u32 s] w fun e w' => e = .returned (.bool true) ∧ Below w.heap.size w w' := by
  go_enter Try.func4, Try.ntmps4
  go_wp2
  go_ret
  exact ⟨rfl, Below.refl _ _⟩

theorem first_big (n s : Int) (w : World) (hn : 65536 < n) :
    Calls Try.prog 4 #[.int .i64 n, .int .u32 s] w fun e w' => e = .returned (.bool true) ∧ Below w.heap.size w w' := by
  have hd : decide (n < 0) = false := by simp; omega
  go_enter Try.func4, Try.ntmps4
  go_wp2
  go_ret
  exact ⟨rfl, Below.refl _ _⟩

theorem u32_bounds {x : Int} (h : (Lit.int .u32 x).wf = true) : 0 ≤ x ∧ x ≤ 4294967295 := by
  simp [Lit.wf, IntKind.min, IntKind.max, IntKind.signed, IntKind.bits] at h
  omega

theorem first_any (n s : Int) (w : World) (hs : (Lit.int .u32 s).wf = true) :
    Calls Try.prog 4 #[.int .i64 n, .int .u32 s] w fun e w' => e = .returned (.bool true) ∧ Below w.heap.size w w' := by
  obtain ⟨s0, s1⟩ := u32_bounds hs
  by_cases h1 : n < 0
  · exact first_neg n s w h1
  · by_cases h2 : 65536 < n
    · exact first_big n s w h2
    · obtain ⟨m, rfl⟩ := Int.eq_ofNat_of_zero_le (show 0 ≤ n by omega)
      exact first_in m s w (by omega) s0 s1
end Go.Proofs.Qxb6602140a.loss
