import Derived.Test.Qxb6602140aRows
import Derived.WalkKit
import Derived.Below
import Derived.Deep.QuietTactic
import Derived.BigQuiet
import Derived.WalkLawsBesides
import Derived.WalkSpells
namespace Go.Proofs.Qxb6602140a.loss
open Go.RowKit

/-- What a lossSplit holds. -/
structure LS where
  up : Int
  down : Int
  unk : Int
  mis : Int
  ans : Bool
  last : Int
  uns : Int
  sa : Bool

/-- The eight cells of a lossSplit. -/
def cellsOf (s : LS) : Array Value := #[.int .i64 s.up, .int .i64 s.down, .int .i64 s.unk, .int .i64 s.mis, .bool s.ans, .int .u32 s.last, .int .i64 s.uns, .bool s.sa]

/-- Block b holds the lossSplit s. -/
def Has (w : World) (b : Nat) (s : LS) : Prop := w.heap[b]? = some (.cells (cellsOf s) 27 (0, 0))

theorem Has.cell {w : World} {b : Nat} {s : LS} (h : Has w b s) (o : Nat) : w.cell? ⟨b, o, none⟩ = (cellsOf s)[o]? := by
  simp [World.cell?, show w.heap[b]? = some (.cells (cellsOf s) 27 (0, 0)) from h]
theorem Has.frozen {w : World} {b : Nat} {s : LS} (h : Has w b s) (o : Nat) : w.frozen? ⟨b, o, none⟩ = false := by
  simp [World.frozen?, show w.heap[b]? = some (.cells (cellsOf s) 27 (0, 0)) from h]


/-- From w to w': block b may have turned, new blocks may lie behind; nothing else. -/
structure Keeps (b : Nat) (w w' : World) : Prop where
  os : w'.os = w.os
  tape : w'.tape = w.tape
  output : w'.output = w.output
  size : w.heap.size ≤ w'.heap.size
  block : ∀ k, k < w.heap.size → k ≠ b → w'.heap[k]? = w.heap[k]?

theorem Keeps.refl (b : Nat) (w : World) : Keeps b w w := ⟨rfl, rfl, rfl, Nat.le_refl _, fun _ _ _ => rfl⟩
theorem Keeps.trans {b : Nat} {a w c : World} (h : Keeps b a w) (k : Keeps b w c) : Keeps b a c :=
  ⟨k.os.trans h.os, k.tape.trans h.tape, k.output.trans h.output, Nat.le_trans h.size k.size, fun i hi hb => (k.block i (Nat.lt_of_lt_of_le hi h.size) hb).trans (h.block i hi hb)⟩
theorem Keeps.setCell {b : Nat} {a w : World} (h : Keeps b a w) (o : Nat) (v : Value) : Keeps b a (w.setCell ⟨b, o, none⟩ v) :=
  h.trans ⟨rfl, rfl, rfl, by simp [World.setCell], fun _ _ hb => Below.heap_setCell _ _ _ _ hb⟩
theorem Keeps.drewN {b : Nat} {a w : World} (h : Keeps b a w) (n : Nat) : Keeps b a (w.drewN n) :=
  h.trans ⟨rfl, rfl, rfl, Nat.le_refl _, fun _ _ _ => rfl⟩
theorem Keeps.alloc {b : Nat} {a w : World} (h : Keeps b a w) (o : Obj) : Keeps b a (w.alloc o) :=
  h.trans ⟨rfl, rfl, rfl, by simp, fun k hk _ => Below.heap_alloc _ _ _ hk⟩
theorem Keeps.below {b B : Nat} {W w w' : World} (hb : Below B W w) (h : Keeps b w w') (h1 : B ≤ b) (h2 : B ≤ w.heap.size) : Below B W w' :=
  hb.trans ⟨h.os, h.tape, h.output, h.size, fun k hk => h.block k (by omega) (by omega)⟩

/-- Block b holds these cells. -/
def Row (w : World) (b : Nat) (c : Array Value) : Prop := w.heap[b]? = some (.cells c 27 (0, 0))
theorem Row.set {w : World} {b : Nat} {c : Array Value} (h : Row w b c) (o : Nat) (v : Value) : Row (w.setCell ⟨b, o, none⟩ v) b (c.setIfInBounds o v) := by
  simp [Row, World.setCell, Array.getElem?_modify, show w.heap[b]? = some (.cells c 27 (0, 0)) from h]
theorem Row.drewN {w : World} {b : Nat} {c : Array Value} (h : Row w b c) (n : Nat) : Row (w.drewN n) b c := h
theorem Row.has {w : World} {b : Nat} {c : Array Value} {s : LS} (h : Row w b c) (e : c = cellsOf s) : Has w b s := by subst e; exact h

/-- How far the reflector's count advanced. -/
def adv (s : LS) (seq : Int) : Int := if s.ans then wrap32 ((seq - s.last) % 4294967296) else seq + 1
/-- How many of the missing probes reached the reflector, by a count that advanced. -/
def rea (s : LS) (seq : Int) : Int := if adv s seq - 1 ≤ s.mis then adv s seq - 1 else s.mis

/-- add of a probe that was answered. -/
def reply (s : LS) (seq : Int) : LS :=
  if 0 < adv s seq then
    if seq ≤ s.mis then ⟨s.up, s.down + rea s seq, s.unk, 0, true, seq, s.uns + (s.mis - rea s seq), s.sa⟩
    else ⟨s.up + (s.mis - rea s seq), s.down + rea s seq, s.unk, 0, true, seq, s.uns, s.sa⟩
  else if seq ≤ s.mis then ⟨s.up, s.down + seq, s.unk + (s.mis - seq), 0, true, seq, s.uns, true⟩
  else ⟨s.up, s.down, s.unk + s.mis, 0, true, seq, s.uns, s.sa⟩
/-- add of a probe that was lost. -/
def lost (s : LS) : LS := ⟨s.up, s.down, s.unk, s.mis + 1, s.ans, s.last, s.uns, s.sa⟩

/-- The counts lie in a small range. -/
structure Small (s : LS) : Prop where
  up0 : 0 ≤ s.up
  down0 : 0 ≤ s.down
  unk0 : 0 ≤ s.unk
  mis0 : 0 ≤ s.mis
  uns0 : 0 ≤ s.uns
  last0 : 0 ≤ s.last
  last1 : s.last ≤ 4294967295
  up1 : s.up ≤ 1000000
  down1 : s.down ≤ 1000000
  unk1 : s.unk ≤ 1000000
  mis1 : s.mis ≤ 1000000
  uns1 : s.uns ≤ 1000000

set_option maxHeartbeats 400000 in
theorem add_lost (b q : Nat) (s : LS) (w : World) (h : Has w b s) (hm0 : 0 ≤ s.mis) (hm : s.mis ≤ 1000000) (hq : w.cell? ⟨q, 2, none⟩ = some (.pointer none)) :
    Calls Try.prog 17 #[.pointer (some ⟨b, 0, none⟩), .pointer (some ⟨q, 0, none⟩)] w fun e w' => e = .returned (.tuple #[]) ∧ w' = w.setCell ⟨b, 3, none⟩ (.int .i64 (s.mis + 1)) := by
  have c3 : w.cell? ⟨b, 3, none⟩ = some (.int .i64 s.mis) := h.cell 3
  have f3 : w.frozen? ⟨b, 3, none⟩ = false := h.frozen 3
  go_enter Try.func17, Try.ntmps17
  go_wp2
  refine bodyPost_ret (results_none rfl _ _ _) rfl ?_
  exact ⟨rfl, rfl⟩


theorem lost_has {w : World} {b : Nat} {s : LS} (h : Has w b s) : Has (w.setCell ⟨b, 3, none⟩ (.int .i64 (s.mis + 1))) b (lost s) :=
  (Row.set h 3 _).has (by simp [cellsOf, lost])

set_option maxHeartbeats 1600000 in
theorem add_reply (b q : Nat) (s : LS) (seq : Int) (w : World) (h : Has w b s) (hS : Small s)
    (hs0 : 0 ≤ seq) (hs : seq ≤ 4294967295) (_hqb : q ≠ b) (a : Addr)
    (hq : w.cell? ⟨q, 2, none⟩ = some (.pointer (some a))) (hq10 : w.cell? ⟨q, 10, none⟩ = some (.int .u32 seq)) :
    Calls Try.prog 17 #[.pointer (some ⟨b, 0, none⟩), .pointer (some ⟨q, 0, none⟩)] w fun e w' => e = .returned (.tuple #[]) ∧ Keeps b w w' ∧ Has w' b (reply s seq) := by
  obtain ⟨up, down, unk, mis, ans, last, uns, sa⟩ := s
  obtain ⟨up0, down0, unk0, mis0, uns0, last0, last1, up1, down1, unk1, mis1, uns1⟩ := hS
  dsimp only at *
  have hR : Row w b (cellsOf ⟨up, down, unk, mis, ans, last, uns, sa⟩) := h
  have c0 : w.cell? ⟨b, 0, none⟩ = some (.int .i64 up) := h.cell 0
  have c1 : w.cell? ⟨b, 1, none⟩ = some (.int .i64 down) := h.cell 1
  have c2 : w.cell? ⟨b, 2, none⟩ = some (.int .i64 unk) := h.cell 2
  have c3 : w.cell? ⟨b, 3, none⟩ = some (.int .i64 mis) := h.cell 3
  have c4 : w.cell? ⟨b, 4, none⟩ = some (.bool ans) := h.cell 4
  have c5 : w.cell? ⟨b, 5, none⟩ = some (.int .u32 last) := h.cell 5
  have c6 : w.cell? ⟨b, 6, none⟩ = some (.int .i64 uns) := h.cell 6
  have c7 : w.cell? ⟨b, 7, none⟩ = some (.bool sa) := h.cell 7
  have f0 : w.frozen? ⟨b, 0, none⟩ = false := h.frozen 0
  have f1 : w.frozen? ⟨b, 1, none⟩ = false := h.frozen 1
  have f2 : w.frozen? ⟨b, 2, none⟩ = false := h.frozen 2
  have f3 : w.frozen? ⟨b, 3, none⟩ = false := h.frozen 3
  have f4 : w.frozen? ⟨b, 4, none⟩ = false := h.frozen 4
  have f5 : w.frozen? ⟨b, 5, none⟩ = false := h.frozen 5
  have f6 : w.frozen? ⟨b, 6, none⟩ = false := h.frozen 6
  have f7 : w.frozen? ⟨b, 7, none⟩ = false := h.frozen 7
  cases ans
  · have hp : 0 < seq + 1 := by omega
    by_cases hle : seq ≤ mis
    · have hfin : Hid (reply ⟨up, down, unk, mis, false, last, uns, sa⟩ seq = ⟨up, down + seq, unk, 0, true, seq, uns + (mis - seq), sa⟩) := by
        simp [Hid, reply, adv, rea, hle, hp]
      go_enter Try.func17, Try.ntmps17
      go_wp2
      go_quiet (fail)
      go_wp2
      go_end0
      refine ⟨rfl, ?_, ?_⟩
      · repeat (first | with_reducible exact Keeps.refl _ _ | with_reducible refine Keeps.setCell ?_ _ _ | with_reducible refine Keeps.drewN ?_ _)
      · rw [hfin.out]
        apply Row.has
        · repeat (first | with_reducible apply Row.set | with_reducible apply Row.drewN | with_reducible exact hR)
        · simp [cellsOf]
    · have hlt : mis < seq := by omega
      have hfin : Hid (reply ⟨up, down, unk, mis, false, last, uns, sa⟩ seq = ⟨up, down + mis, unk, 0, true, seq, uns, sa⟩) := by
        simp [Hid, reply, adv, rea, hle, hp]
      go_enter Try.func17, Try.ntmps17
      go_wp2
      go_quiet (fail)
      go_wp2
      go_end0
      refine ⟨rfl, ?_, ?_⟩
      · repeat (first | with_reducible exact Keeps.refl _ _ | with_reducible refine Keeps.setCell ?_ _ _ | with_reducible refine Keeps.drewN ?_ _)
      · rw [hfin.out]
        apply Row.has
        · repeat (first | with_reducible apply Row.set | with_reducible apply Row.drewN | with_reducible exact hR)
        · simp [cellsOf]
  · obtain ⟨A, hA⟩ : ∃ A, wrap32 ((seq - last) % 4294967296) = A := ⟨_, rfl⟩
    have hA0 : -2147483648 ≤ A := by rw [← hA]; unfold wrap32; omega
    have hA1 : A ≤ 2147483647 := by rw [← hA]; unfold wrap32; omega
    by_cases hp : 0 < A
    · by_cases hr : A - 1 ≤ mis
      · by_cases hle : seq ≤ mis
        · have hfin : Hid (reply ⟨up, down, unk, mis, true, last, uns, sa⟩ seq = ⟨up, down + (A - 1), unk, 0, true, seq, uns + (mis - (A - 1)), sa⟩) := by
            simp [Hid, reply, adv, rea, hA, hle, hp, hr]
          go_enter Try.func17, Try.ntmps17
          go_wp2
          go_quiet (fail)
          go_wp2
          go_quiet (fail)
          go_wp2
          go_end0
          refine ⟨rfl, ?_, ?_⟩
          · repeat (first | with_reducible exact Keeps.refl _ _ | with_reducible refine Keeps.setCell ?_ _ _ | with_reducible refine Keeps.drewN ?_ _)
          · rw [hfin.out]
            apply Row.has
            · repeat (first | with_reducible apply Row.set | with_reducible apply Row.drewN | with_reducible exact hR)
            · simp [cellsOf]
        · have hlt : mis < seq := by omega
          have hfin : Hid (reply ⟨up, down, unk, mis, true, last, uns, sa⟩ seq = ⟨up + (mis - (A - 1)), down + (A - 1), unk, 0, true, seq, uns, sa⟩) := by
            simp [Hid, reply, adv, rea, hA, hle, hp, hr]
          go_enter Try.func17, Try.ntmps17
          go_wp2
          go_quiet (fail)
          go_wp2
          go_quiet (fail)
          go_wp2
          go_end0
          refine ⟨rfl, ?_, ?_⟩
          · repeat (first | with_reducible exact Keeps.refl _ _ | with_reducible refine Keeps.setCell ?_ _ _ | with_reducible refine Keeps.drewN ?_ _)
          · rw [hfin.out]
            apply Row.has
            · repeat (first | with_reducible apply Row.set | with_reducible apply Row.drewN | with_reducible exact hR)
            · simp [cellsOf]
      · have hrr : mis < A - 1 := by omega
        by_cases hle : seq ≤ mis
        · have hfin : Hid (reply ⟨up, down, unk, mis, true, last, uns, sa⟩ seq = ⟨up, down + mis, unk, 0, true, seq, uns, sa⟩) := by
            simp [Hid, reply, adv, rea, hA, hle, hp, hr]
          go_enter Try.func17, Try.ntmps17
          go_wp2
          go_quiet (fail)
          go_wp2
          go_quiet (fail)
          go_wp2
          go_end0
          refine ⟨rfl, ?_, ?_⟩
          · repeat (first | with_reducible exact Keeps.refl _ _ | with_reducible refine Keeps.setCell ?_ _ _ | with_reducible refine Keeps.drewN ?_ _)
          · rw [hfin.out]
            apply Row.has
            · repeat (first | with_reducible apply Row.set | with_reducible apply Row.drewN | with_reducible exact hR)
            · simp [cellsOf]
        · have hlt : mis < seq := by omega
          have hfin : Hid (reply ⟨up, down, unk, mis, true, last, uns, sa⟩ seq = ⟨up, down + mis, unk, 0, true, seq, uns, sa⟩) := by
            simp [Hid, reply, adv, rea, hA, hle, hp, hr]
          go_enter Try.func17, Try.ntmps17
          go_wp2
          go_quiet (fail)
          go_wp2
          go_quiet (fail)
          go_wp2
          go_end0
          refine ⟨rfl, ?_, ?_⟩
          · repeat (first | with_reducible exact Keeps.refl _ _ | with_reducible refine Keeps.setCell ?_ _ _ | with_reducible refine Keeps.drewN ?_ _)
          · rw [hfin.out]
            apply Row.has
            · repeat (first | with_reducible apply Row.set | with_reducible apply Row.drewN | with_reducible exact hR)
            · simp [cellsOf]
    · by_cases hle : seq ≤ mis
      · have hfin : Hid (reply ⟨up, down, unk, mis, true, last, uns, sa⟩ seq = ⟨up, down + seq, unk + (mis - seq), 0, true, seq, uns, true⟩) := by
          simp [Hid, reply, adv, hA, hle, hp]
        go_enter Try.func17, Try.ntmps17
        go_wp2
        go_quiet (fail)
        go_wp2
        go_quiet (fail)
        go_wp2
        go_end0
        refine ⟨rfl, ?_, ?_⟩
        · repeat (first | with_reducible exact Keeps.refl _ _ | with_reducible refine Keeps.setCell ?_ _ _ | with_reducible refine Keeps.drewN ?_ _)
        · rw [hfin.out]
          apply Row.has
          · repeat (first | with_reducible apply Row.set | with_reducible apply Row.drewN | with_reducible exact hR)
          · simp [cellsOf]
      · have hlt : mis < seq := by omega
        have hfin : Hid (reply ⟨up, down, unk, mis, true, last, uns, sa⟩ seq = ⟨up, down, unk + mis, 0, true, seq, uns, sa⟩) := by
          simp [Hid, reply, adv, hA, hle, hp]
        go_enter Try.func17, Try.ntmps17
        go_wp2
        go_quiet (fail)
        go_wp2
        go_quiet (fail)
        go_wp2
        go_end0
        refine ⟨rfl, ?_, ?_⟩
        · repeat (first | with_reducible exact Keeps.refl _ _ | with_reducible refine Keeps.setCell ?_ _ _ | with_reducible refine Keeps.drewN ?_ _)
        · rw [hfin.out]
          apply Row.has
          · repeat (first | with_reducible apply Row.set | with_reducible apply Row.drewN | with_reducible exact hR)
          · simp [cellsOf]
end Go.Proofs.Qxb6602140a.loss
