import Derived.Test.Qxb6602140aAcc
import Derived.ProofKit
import Derived.Deep.SlicePairs
namespace Go.Proofs.Qxb6602140a.loss
open Go.ChangeShapes Go.WideShapes Go.ChangeAt Go.RowKit Go.Deep

theorem cells40 : Try.prog.cellsOf 40 = 2 := by kernel_rfl
theorem cells36 : Try.prog.cellsOf 36 = 2 := by kernel_rfl
theorem cells25 : Try.prog.cellsOf 25 = 1 := by kernel_rfl
theorem cells4 : Try.prog.cellsOf 4 = 1 := by kernel_rfl

def boolOf : Value → Bool | .bool b => b | _ => false

theorem plain_addr {w : World} {a : Addr} {v : Value} (h : w.cell? a = some v) : a = ⟨a.block, a.off, none⟩ := by
  have hs := World.cell?_spot h
  cases a
  simp at hs
  simp [hs]

theorem lt_of_cell {w : World} {b o : Nat} {v : Value} (h : w.cell? ⟨b, o, none⟩ = some v) : b < w.heap.size := by
  by_cases hb : b < w.heap.size
  · exact hb
  · simp [World.cell?, show w.heap[b]? = none from by simp; omega] at h

/-- A slice of steps that can be read: no step, or the steps lie at a plain address. -/
theorem open_steps {H : Type} {enc : TypeId × Value → H} {W : World} {a : Option Addr} {len cap : Nat} {d : DataW H} {ps : List MemPlace}
    (h : DataW.Trod enc Try.prog W 0 (fun _ => true) true 37 (.slice a len cap) d ps) :
    len = 0 ∨ ∃ b off R Q, a = some ⟨b, off, none⟩ ∧ Steps W b off len R Q := by
  obtain ⟨fuel, hf⟩ := h
  rcases open_slice_pairs Try.underlying37 Try.underlying40 cells40 rfl rfl cells4 cells25 hf with ⟨hcs, _⟩ | ⟨x, len', cap', m, n, V0, V1, D0, D1, P0, P1, hcs, _, hl, hm, hmm, _, hx⟩
  · left
    simp [Value.cells] at hcs
    exact hcs.2.1
  · simp [Value.cells] at hcs
    obtain ⟨rfl, rfl, rfl⟩ := hcs
    simp at hmm
    subst hmm
    by_cases h0 : len = 0
    · exact Or.inl h0
    · right
      have hp : x = ⟨x.block, x.off, none⟩ := plain_addr (by have := (hx 0 (by omega)).1; simpa [Addr.add] using this)
      rw [hp] at hx ⊢
      refine ⟨x.block, x.off, fun i => boolOf (V0 i), fun i => intOf (V1 i), rfl, ?_, ?_⟩
      · have g := (hx 0 (by omega)).1
        rw [add_plain] at g
        exact lt_of_cell g
      · intro i hi
        obtain ⟨g0, g1, t0, t1⟩ := hx i (by omega)
        obtain ⟨bb, e0, _⟩ := DataW.trod_bool Try.underlying4 t0
        obtain ⟨q, e1, _, wf⟩ := DataW.trod_int Try.underlying25 t1
        simp at e0 e1
        rw [e0] at g0
        rw [e1] at g1
        rw [add_plain] at g0 g1
        simp only [e0, e1, boolOf, intOf]
        exact ⟨g0, by simpa [Nat.add_assoc] using g1, u32_bounds wf⟩

/-- What the walk is told of the slice of fates: A i: it reached the reflector, B i: its reply came. -/
def Fates (w : World) (b off len : Nat) (A B : Nat → Bool) : Prop :=
  b < w.heap.size ∧ ∀ i, i < len → w.cell? ⟨b, off + i * 2, none⟩ = some (.bool (A i)) ∧ w.cell? ⟨b, off + i * 2 + 1, none⟩ = some (.bool (B i))

/-- A slice of fates that can be read: no fate, or the fates lie at a plain address. -/
theorem open_fates {H : Type} {enc : TypeId × Value → H} {W : World} {a : Option Addr} {len cap : Nat} {d : DataW H} {ps : List MemPlace}
    (h : DataW.Trod enc Try.prog W 0 (fun _ => true) true 33 (.slice a len cap) d ps) :
    len = 0 ∨ ∃ b off R Q, a = some ⟨b, off, none⟩ ∧ Fates W b off len R Q := by
  obtain ⟨fuel, hf⟩ := h
  rcases open_slice_pairs Try.underlying33 Try.underlying36 cells36 rfl rfl cells4 cells4 hf with ⟨hcs, _⟩ | ⟨x, len', cap', m, n, V0, V1, D0, D1, P0, P1, hcs, _, hl, hm, hmm, _, hx⟩
  · left
    simp [Value.cells] at hcs
    exact hcs.2.1
  · simp [Value.cells] at hcs
    obtain ⟨rfl, rfl, rfl⟩ := hcs
    simp at hmm
    subst hmm
    by_cases h0 : len = 0
    · exact Or.inl h0
    · right
      have hp : x = ⟨x.block, x.off, none⟩ := plain_addr (by have := (hx 0 (by omega)).1; simpa [Addr.add] using this)
      rw [hp] at hx ⊢
      refine ⟨x.block, x.off, fun i => boolOf (V0 i), fun i => boolOf (V1 i), rfl, ?_, ?_⟩
      · have g := (hx 0 (by omega)).1
        rw [add_plain] at g
        exact lt_of_cell g
      · intro i hi
        obtain ⟨g0, g1, t0, t1⟩ := hx i (by omega)
        obtain ⟨bb, e0, _⟩ := DataW.trod_bool Try.underlying4 t0
        obtain ⟨q, e1, _⟩ := DataW.trod_bool Try.underlying4 t1
        simp at e0 e1
        rw [e0] at g0
        rw [e1] at g1
        rw [add_plain] at g0 g1
        simp only [e0, e1, boolOf]
        exact ⟨g0, by simpa [Nat.add_assoc] using g1⟩
end Go.Proofs.Qxb6602140a.loss
