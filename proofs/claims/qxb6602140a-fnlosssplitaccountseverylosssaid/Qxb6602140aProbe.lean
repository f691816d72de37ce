import Derived.Test.Qxb6602140aLoss
namespace Go.Proofs.Qxb6602140a.loss
open Go.RowKit

theorem zzadd_lost (b q : Nat) (s : LS) (w : World) (h : Has w b s) (hm0 : 0 ≤ s.mis) (hm : s.mis ≤ 1000000) (hq : w.cell? ⟨q, 2, none⟩ = some (.pointer none)) :
    Calls Try.prog 15 #[.pointer (some ⟨b, 0, none⟩), .pointer (some ⟨q, 0, none⟩)] w fun e w' => e = .returned (.tuple #[]) ∧ Keeps b w w' ∧ Has w' b (lost s) := by
  go_enter Try.func15, Try.ntmps15
  go_wp2_with (go_at_call 17; refine (add_lost b q s _ h hm0 hm hq).mono ?_; rintro e w' ⟨rfl, rfl⟩)
  go_end0
  exact ⟨rfl, (Keeps.refl _ _).setCell _ _, lost_has h⟩

theorem zzadd_reply (b q : Nat) (s : LS) (seq : Int) (w : World) (h : Has w b s) (hS : Small s)
    (hs0 : 0 ≤ seq) (hs : seq ≤ 4294967295) (hqb : q ≠ b) (a : Addr)
    (hq : w.cell? ⟨q, 2, none⟩ = some (.pointer (some a))) (hq10 : w.cell? ⟨q, 10, none⟩ = some (.int .u32 seq)) :
    Calls Try.prog 15 #[.pointer (some ⟨b, 0, none⟩), .pointer (some ⟨q, 0, none⟩)] w fun e w' => e = .returned (.tuple #[]) ∧ Keeps b w w' ∧ Has w' b (reply s seq) := by
  go_enter Try.func15, Try.ntmps15
  go_wp2_with (go_at_call 17; refine (add_reply b q s seq _ h hS hs0 hs hqb a hq hq10).mono ?_; rintro e w' ⟨rfl, hk, hh⟩)
  go_end0
  exact ⟨rfl, hk, hh⟩

theorem Has.lt {w : World} {b : Nat} {s : LS} (h : Has w b s) : b < w.heap.size := by
  by_cases hb : b < w.heap.size
  · exact hb
  · have e : w.heap[b]? = none := by simp; omega
    rw [Has, e] at h
    cases h
theorem Has.alloc {w : World} {b : Nat} {s : LS} (h : Has w b s) (o : Obj) : Has (w.alloc o) b s := (Below.heap_alloc w o b h.lt).trans h

theorem probe_lost (b : Nat) (s : LS) (x : Int) (w : World) (h : Has w b s) (hm0 : 0 ≤ s.mis) (hm : s.mis ≤ 1000000) :
    Calls Try.prog 9 #[.pointer (some ⟨b, 0, none⟩), .bool false, .int .u32 x] w fun e w' => e = .returned (.tuple #[]) ∧ Keeps b w w' ∧ Has w' b (lost s) := by
  go_enter Try.func9, Try.ntmps9
  go_wp2_with (go_at_call 15; refine (zzadd_lost b w.heap.size s _ (h.alloc _) hm0 hm (by simp)).mono ?_; rintro e w' ⟨rfl, hk, hh⟩)
  go_end0
  exact ⟨rfl, ((Keeps.refl _ _).alloc _).trans hk, hh⟩

theorem probe_reply (b : Nat) (s : LS) (seq : Int) (w : World) (h : Has w b s) (hS : Small s) (hs0 : 0 ≤ seq) (hs : seq ≤ 4294967295) :
    Calls Try.prog 9 #[.pointer (some ⟨b, 0, none⟩), .bool true, .int .u32 seq] w fun e w' => e = .returned (.tuple #[]) ∧ Keeps b w w' ∧ Has w' b (reply s seq) := by
  have hne : w.heap.size ≠ b := by have := h.lt; omega
  go_enter Try.func9, Try.ntmps9
  go_wp2_with (go_at_call 15; refine (zzadd_reply b w.heap.size s seq _ ((h.alloc _).alloc _) hS hs0 hs hne ⟨w.heap.size + 1, 0, none⟩ (by simp) (by simp)).mono ?_; rintro e w' ⟨rfl, hk, hh⟩)
  go_end0
  exact ⟨rfl, (((Keeps.refl _ _).alloc _).alloc _).trans hk, hh⟩

/-- What split gives. -/
def spUp (s : LS) : Int := if s.sa then s.up else s.up + s.uns
def spUnk (s : LS) : Int := if s.sa then s.unk + s.mis + s.uns else s.unk + s.mis

set_option maxHeartbeats 800000 in
theorem split_any (b : Nat) (s : LS) (w : World) (h : Has w b s) (hS : Small s) :
    Calls Try.prog 16 #[.pointer (some ⟨b, 0, none⟩)] w fun e w' => e = .returned (.tuple #[.int .i64 (spUp s), .int .i64 s.down, .int .i64 (spUnk s)]) ∧ ∃ n, w' = w.drewN n := by
  obtain ⟨up, down, unk, mis, ans, last, uns, sa⟩ := s
  obtain ⟨up0, down0, unk0, mis0, uns0, last0, last1, up1, down1, unk1, mis1, uns1⟩ := hS
  dsimp only at *
  have c0 : w.cell? ⟨b, 0, none⟩ = some (.int .i64 up) := h.cell 0
  have c1 : w.cell? ⟨b, 1, none⟩ = some (.int .i64 down) := h.cell 1
  have c2 : w.cell? ⟨b, 2, none⟩ = some (.int .i64 unk) := h.cell 2
  have c3 : w.cell? ⟨b, 3, none⟩ = some (.int .i64 mis) := h.cell 3
  have c6 : w.cell? ⟨b, 6, none⟩ = some (.int .i64 uns) := h.cell 6
  have c7 : w.cell? ⟨b, 7, none⟩ = some (.bool sa) := h.cell 7
  cases sa
  · go_enter Try.func16, Try.ntmps16
    go_wp2
    go_quiet (fail)
    go_wp2
    go_ret3
    exact ⟨rfl, _, rfl⟩
  · go_enter Try.func16, Try.ntmps16
    go_wp2
    go_quiet (fail)
    go_wp2
    go_ret3
    exact ⟨rfl, _, rfl⟩

theorem zzsplit_any (b : Nat) (s : LS) (w : World) (h : Has w b s) (hS : Small s) :
    Calls Try.prog 10 #[.pointer (some ⟨b, 0, none⟩)] w fun e w' => e = .returned (.tuple #[.int .i64 (spUp s), .int .i64 s.down, .int .i64 (spUnk s)]) ∧ ∃ n, w' = w.drewN n := by
  go_enter Try.func10, Try.ntmps10
  go_wp2_with (go_at_call 16; refine (split_any b s _ h hS).mono ?_; rintro e w' ⟨rfl, n, rfl⟩)
  go_ret3
  exact ⟨rfl, n, rfl⟩
end Go.Proofs.Qxb6602140a.loss
