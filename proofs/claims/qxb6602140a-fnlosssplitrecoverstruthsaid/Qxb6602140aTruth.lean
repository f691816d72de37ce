import Derived.Test.Qxb6602140aOpen
namespace Go.Proofs.Qxb6602140a.loss
open Go.RowKit

/-- Behind k fates: the state s, the reflector's counter c, the truth so far (wu, wd) and what is pending (pu, pd). -/
structure Tr (k : Nat) (s : LS) (c wu wd pu pd : Int) : Prop where
  sm : Sum s (wu + wd + pu + pd)
  sa : s.sa = false
  mis : s.mis = pu + pd
  up : s.up + s.uns = wu
  down : s.down = wd
  unk : s.unk = 0
  pu0 : 0 ≤ pu
  pd0 : 0 ≤ pd
  wu0 : 0 ≤ wu
  wd0 : 0 ≤ wd
  c0 : 0 ≤ c
  ck : c ≤ k
  tk : wu + wd + pu + pd ≤ k
  yes : s.ans = true → c = s.last + 1 + pd
  no : s.ans = false → c = pd

theorem Tr.zero : Tr 0 (fresh 0) 0 0 0 0 0 := by
  refine ⟨Sum.fresh, rfl, rfl, rfl, rfl, rfl, ?_, ?_, ?_, ?_, ?_, ?_, ?_, ?_, ?_⟩ <;> simp [fresh]

theorem Tr.goesUp {k : Nat} {s : LS} {c wu wd pu pd : Int} (h : Tr k s c wu wd pu pd) : Tr (k + 1) (lost s) c wu wd (pu + 1) pd := by
  obtain ⟨sm, sa, mis, up, down, unk, pu0, pd0, wu0, wd0, c0, ck, tk, yes, no⟩ := h
  have sm' := sm.lost
  rw [show wu + wd + pu + pd + 1 = wu + wd + (pu + 1) + pd from by omega] at sm'
  refine ⟨sm', sa, ?_, up, down, unk, by omega, pd0, wu0, wd0, c0, by omega, by omega, yes, no⟩
  simp only [lost]; omega

theorem Tr.goesDown {k : Nat} {s : LS} {c wu wd pu pd : Int} (h : Tr k s c wu wd pu pd) : Tr (k + 1) (lost s) (c + 1) wu wd pu (pd + 1) := by
  obtain ⟨sm, sa, mis, up, down, unk, pu0, pd0, wu0, wd0, c0, ck, tk, yes, no⟩ := h
  have sm' := sm.lost
  rw [show wu + wd + pu + pd + 1 = wu + wd + pu + (pd + 1) from by omega] at sm'
  refine ⟨sm', sa, ?_, up, down, unk, pu0, by omega, wu0, wd0, by omega, by omega, by omega, ?_, ?_⟩
  · simp only [lost]; omega
  · intro h; have := yes h; simp only [lost]; omega
  · intro h; have := no h; omega

theorem Tr.adv {k : Nat} {s : LS} {c wu wd pu pd : Int} (h : Tr k s c wu wd pu pd) (hk : k ≤ 65536) : adv s c = pd + 1 := by
  obtain ⟨sm, sa, mis, up, down, unk, pu0, pd0, wu0, wd0, c0, ck, tk, yes, no⟩ := h
  unfold loss.adv
  cases ha : s.ans
  · simp [no ha]
  · simp only [if_true]
    have := yes ha
    unfold wrap32
    omega

theorem Tr.replies {k : Nat} {s : LS} {c wu wd pu pd : Int} (h : Tr k s c wu wd pu pd) (hk : k ≤ 65536) : Tr (k + 1) (reply s c) (c + 1) (wu + pu) (wd + pd) 0 0 := by
  have ha := h.adv hk
  obtain ⟨sm, sa, mis, up, down, unk, pu0, pd0, wu0, wd0, c0, ck, tk, yes, no⟩ := h
  have sm' := (reply_sum sm c c0 (by omega)).1
  rw [show wu + wd + pu + pd = (wu + pu) + (wd + pd) + 0 + 0 from by omega] at sm'
  have hr : rea s c = pd := by unfold rea; rw [ha]; split <;> omega
  have hp : 0 < loss.adv s c := by omega
  by_cases hle : c ≤ s.mis
  · have e1 : reply s c = ⟨s.up, s.down + pd, s.unk, 0, true, c, s.uns + (s.mis - pd), s.sa⟩ := by simp [reply, hp, hle, hr]
    rw [e1] at sm' ⊢
    refine ⟨sm', sa, ?_, ?_, ?_, unk, ?_, ?_, ?_, ?_, ?_, ?_, ?_, ?_, ?_⟩ <;> (try dsimp only) <;> first | omega | (intro h; cases h)
  · have e1 : reply s c = ⟨s.up + (s.mis - pd), s.down + pd, s.unk, 0, true, c, s.uns, s.sa⟩ := by simp [reply, hp, hle, hr]
    rw [e1] at sm' ⊢
    refine ⟨sm', sa, ?_, ?_, ?_, unk, ?_, ?_, ?_, ?_, ?_, ?_, ?_, ?_, ?_⟩ <;> (try dsimp only) <;> first | omega | (intro h; cases h)

theorem Tr.ends {k : Nat} {s : LS} {c wu wd pu pd : Int} (h : Tr k s c wu wd pu pd) : spUp s = wu ∧ s.down = wd ∧ spUnk s = pu + pd := by
  obtain ⟨sm, sa, mis, up, down, unk, pu0, pd0, wu0, wd0, c0, ck, tk, yes, no⟩ := h
  simp [spUp, spUnk, sa]
  omega

theorem zb11_yes (a : Option Addr) (len cap : Nat) (w : World) (h : len ≤ 1048576) :
    Calls Try.prog 11 #[.slice a len cap] w fun e w' => e = .returned (.bool true) ∧ w = w' := by
  have hd : decide ((1048576 : Int) < (len : Int)) = false := by simp; omega
  go_enter Try.func11, Try.ntmps11
  go_wp2
  go_ret
  exact ⟨rfl, rfl⟩
theorem zb11_no (a : Option Addr) (len cap : Nat) (w : World) (h : 1048576 < len) :
    Calls Try.prog 11 #[.slice a len cap] w fun e w' => e = .returned (.bool false) ∧ w = w' := by
  have hd : (1048576 : Int) < (len : Int) := by omega
  go_enter Try.func11, Try.ntmps11
  go_wp2
  go_ret
  exact ⟨rfl, rfl⟩

theorem truth_huge (a : Option Addr) (len cap : Nat) (w : World) (h : 1048576 < len) :
    Calls Try.prog 5 #[.slice a len cap] w fun e w' => e = .returned (.bool true) ∧ Below w.heap.size w w' := by
  go_enter Try.func5, Try.ntmps5
  go_wp2_with (go_at_call 11; refine (zb11_no a len cap _ h).mono ?_; rintro e w' ⟨rfl, rfl⟩)
  go_ret
  exact ⟨rfl, Below.refl _ _⟩

theorem truth_big (a : Option Addr) (len cap : Nat) (w : World) (h : len ≤ 1048576) (h2 : 65536 < len) :
    Calls Try.prog 5 #[.slice a len cap] w fun e w' => e = .returned (.bool true) ∧ Below w.heap.size w w' := by
  have hd : (65536 : Int) < (len : Int) := by omega
  go_enter Try.func5, Try.ntmps5
  go_wp2_with (go_at_call 11; refine (zb11_yes a len cap _ h).mono ?_; rintro e w' ⟨rfl, rfl⟩)
  go_ret
  exact ⟨rfl, Below.refl _ _⟩

set_option maxHeartbeats 800000 in
theorem truth_some (a : Option Addr) (len cap : Nat) (A B : Nat → Bool) (w : World) (hl : len ≤ 65536) (hst : len = 0 ∨ ∃ b off, a = some ⟨b, off, none⟩ ∧ Fates w b off len A B) :
    Calls Try.prog 5 #[.slice a len cap] w fun e w' => e = .returned (.bool true) ∧ Below w.heap.size w w' := by
  have hd : decide ((65536 : Int) < (len : Int)) = false := by simp; omega
  have HST := show Hid _ from hst
  clear hst
  go_enter Try.func5, Try.ntmps5
  go_wp2_with (go_at_call 11; refine (zb11_yes _ len cap _ (by omega)).mono ?_; rintro e w' ⟨rfl, rfl⟩)
  go_loopw [4, 5, 6, 7, 8, 9] (fun vc vu vd vpu vpd i wr => ∃ (k : Nat) (s : LS) (c wu wd pu pd : Int), k ≤ len ∧ i = .int .i64 k ∧ vc = .int .u32 c ∧ vu = .int .i64 wu ∧ vd = .int .i64 wd ∧ vpu = .int .i64 pu ∧ vpd = .int .i64 pd ∧ Tr k s c wu wd pu pd ∧ Below w.heap.size w wr ∧ Has wr w.heap.size s) (fun _ _ _ _ _ i _ => len - (intOf i).toNat)
  case atStart => exact ⟨0, fresh 0, 0, 0, 0, 0, 0, Nat.zero_le _, rfl, rfl, rfl, rfl, rfl, rfl, Tr.zero, (Below.refl _ _).alloc (Nat.le_refl _) _, (MapKept.heap_alloc w _).1⟩
  case round =>
    obtain ⟨k, s, c, wu, wd, pu, pd, hk, rfl, rfl, rfl, rfl, rfl, rfl, tr, hb, hh⟩ := hrel
    have hz := hh.lt
    have b1 := tr.pu0
    have b2 := tr.pd0
    have b3 := tr.wu0
    have b4 := tr.wd0
    have b5 := tr.c0
    have b6 := tr.ck
    have b7 := tr.tk
    have s0 := tr.sm.small (by omega)
    by_cases hlt : k < len
    · rcases HST.out with h | ⟨b, off, ha, hbz, hst⟩
      · omega
      obtain ⟨g0, g1⟩ := hst k hlt
      clear hst
      rw [← hb.cell (p := ⟨b, _, none⟩) hbz] at g0 g1
      have hbz' : b < wr.heap.size := by omega
      subst ha
      cases hB : B k
      · rw [hB] at g1
        clear hB
        cases hA : A k
        · rw [hA] at g0
          clear hA
          go_wp2_with (go_at_call 9; refine (probe_lost w.heap.size s 0 _ (hh.alloc _) s0.mis0 s0.mis1).mono ?_; rintro e w1 ⟨rfl, hk1, hh1⟩)
          go_roundw
          case rel => exact ⟨k + 1, lost s, c, wu, wd, pu + 1, pd, by omega, by go_num, rfl, rfl, rfl, rfl, rfl, tr.goesUp, hk1.below (hb.alloc (by omega) _) (Nat.le_refl _) (by simp; omega), hh1⟩
          case measure => simp [intOf]; omega
        · rw [hA] at g0
          clear hA
          go_wp2_with (go_at_call 9; refine (probe_lost w.heap.size s 0 _ (hh.alloc _) s0.mis0 s0.mis1).mono ?_; rintro e w1 ⟨rfl, hk1, hh1⟩)
          go_roundw
          case rel => exact ⟨k + 1, lost s, c + 1, wu, wd, pu, pd + 1, by omega, by go_num, rfl, rfl, rfl, rfl, rfl, tr.goesDown, hk1.below (hb.alloc (by omega) _) (Nat.le_refl _) (by simp; omega), hh1⟩
          case measure => simp [intOf]; omega
      · rw [hB] at g1
        clear hB
        go_wp2_with (go_at_call 9; refine (probe_reply w.heap.size s c _ (hh.alloc _) s0 b5 (by omega)).mono ?_; rintro e w1 ⟨rfl, hk1, hh1⟩)
        go_roundw
        case rel => exact ⟨k + 1, reply s c, c + 1, wu + pu, wd + pd, 0, 0, by omega, by go_num, rfl, rfl, rfl, rfl, rfl, tr.replies (by omega), hk1.below (hb.alloc (by omega) _) (Nat.le_refl _) (by simp; omega), hh1⟩
        case measure => simp [intOf]; omega
    · obtain ⟨e1, e2, e3⟩ := tr.ends
      go_wp2_with (go_at_call 10; refine (zzsplit_any w.heap.size _ _ hh s0).mono ?_; rintro e w2 ⟨rfl, m, rfl⟩)
      go_ret
      exact ⟨rfl, below_drewN hb _⟩

theorem truth_any (a : Option Addr) (len cap : Nat) (A B : Nat → Bool) (w : World) (hst : len = 0 ∨ ∃ b off, a = some ⟨b, off, none⟩ ∧ Fates w b off len A B) :
    Calls Try.prog 5 #[.slice a len cap] w fun e w' => e = .returned (.bool true) ∧ Below w.heap.size w w' := by
  by_cases h1 : 1048576 < len
  · exact truth_huge a len cap w h1
  by_cases h2 : 65536 < len
  · exact truth_big a len cap w (by omega) h2
  exact truth_some a len cap A B w (by omega) hst
end Go.Proofs.Qxb6602140a.loss
