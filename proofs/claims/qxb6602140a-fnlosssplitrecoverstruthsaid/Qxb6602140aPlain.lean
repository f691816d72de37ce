import Derived.Test.Qxb6602140aFirst
namespace Go.Proofs.Qxb6602140a.loss
open Go.RowKit

/-- The state behind the first k probes: R i: was probe i answered, Q i: with which number. -/
def run (R : Nat → Bool) (Q : Nat → Int) : Nat → LS
  | 0 => fresh 0
  | k + 1 => if R k then reply (run R Q k) (Q k) else lost (run R Q k)
/-- How many of the first k were lost. -/
def lostN (R : Nat → Bool) : Nat → Int
  | 0 => 0
  | k + 1 => if R k then lostN R k else lostN R k + 1

/-- Every count from 0 on; all of them together: t; the last number a uint32. -/
structure Sum (s : LS) (t : Int) : Prop where
  up0 : 0 ≤ s.up
  down0 : 0 ≤ s.down
  unk0 : 0 ≤ s.unk
  mis0 : 0 ≤ s.mis
  uns0 : 0 ≤ s.uns
  last0 : 0 ≤ s.last
  last1 : s.last ≤ 4294967295
  tot : s.up + s.down + s.unk + s.mis + s.uns = t

theorem Sum.small {s : LS} {t : Int} (h : Sum s t) (ht : t ≤ 1000000) : Small s := by
  obtain ⟨a, b, c, d, e, f, g, i⟩ := h
  exact ⟨a, b, c, d, e, f, g, by omega, by omega, by omega, by omega, by omega⟩

theorem Sum.fresh : Sum (fresh 0) 0 := by
  refine ⟨?_, ?_, ?_, ?_, ?_, ?_, ?_, ?_⟩ <;> simp [loss.fresh]

theorem Sum.lost {s : LS} {t : Int} (h : Sum s t) : Sum (lost s) (t + 1) := by
  obtain ⟨a, b, c, d, e, f, g, i⟩ := h
  refine ⟨?_, ?_, ?_, ?_, ?_, ?_, ?_, ?_⟩ <;> simp only [loss.lost] <;> omega

theorem reply_sum {s : LS} {t : Int} (h : Sum s t) (q : Int) (h0 : 0 ≤ q) (h1 : q ≤ 4294967295) : Sum (reply s q) t ∧ s.down ≤ (reply s q).down := by
  obtain ⟨a, b, c, d, e, f, g, i⟩ := h
  by_cases hp : 0 < adv s q
  · have hr : 0 ≤ rea s q ∧ rea s q ≤ s.mis := by unfold rea; split <;> omega
    by_cases hle : q ≤ s.mis
    · have e1 : reply s q = ⟨s.up, s.down + rea s q, s.unk, 0, true, q, s.uns + (s.mis - rea s q), s.sa⟩ := by simp [reply, hp, hle]
      rw [e1]
      refine ⟨⟨?_, ?_, ?_, ?_, ?_, ?_, ?_, ?_⟩, ?_⟩ <;> dsimp only <;> omega
    · have e1 : reply s q = ⟨s.up + (s.mis - rea s q), s.down + rea s q, s.unk, 0, true, q, s.uns, s.sa⟩ := by simp [reply, hp, hle]
      rw [e1]
      refine ⟨⟨?_, ?_, ?_, ?_, ?_, ?_, ?_, ?_⟩, ?_⟩ <;> dsimp only <;> omega
  · by_cases hle : q ≤ s.mis
    · have e1 : reply s q = ⟨s.up, s.down + q, s.unk + (s.mis - q), 0, true, q, s.uns, true⟩ := by simp [reply, hp, hle]
      rw [e1]
      refine ⟨⟨?_, ?_, ?_, ?_, ?_, ?_, ?_, ?_⟩, ?_⟩ <;> dsimp only <;> omega
    · have e1 : reply s q = ⟨s.up, s.down, s.unk + s.mis, 0, true, q, s.uns, s.sa⟩ := by simp [reply, hp, hle]
      rw [e1]
      refine ⟨⟨?_, ?_, ?_, ?_, ?_, ?_, ?_, ?_⟩, ?_⟩ <;> dsimp only <;> omega

theorem lostN_le (R : Nat → Bool) (k : Nat) : 0 ≤ lostN R k ∧ lostN R k ≤ k := by
  induction k with
  | zero => simp [lostN]
  | succ k ih => simp only [lostN]; split <;> omega

theorem run_sum (R : Nat → Bool) (Q : Nat → Int) (n : Nat) (hQ : ∀ i, i < n → 0 ≤ Q i ∧ Q i ≤ 4294967295) (k : Nat) (hk : k ≤ n) : Sum (run R Q k) (lostN R k) := by
  induction k with
  | zero => exact Sum.fresh
  | succ k ih =>
    have h := ih (by omega)
    simp only [run, lostN]
    split
    · exact (reply_sum h (Q k) (hQ k (by omega)).1 (hQ k (by omega)).2).1
    · exact h.lost

theorem sp_sum {s : LS} {t : Int} (h : Sum s t) : 0 ≤ spUp s ∧ 0 ≤ spUnk s ∧ spUp s + s.down + spUnk s = t := by
  obtain ⟨a, b, c, d, e, f, g, i⟩ := h
  unfold spUp spUnk
  split <;> omega

/-- All that the law on losses asks behind one more probe. -/
theorem step_facts (R : Nat → Bool) (Q : Nat → Int) (n : Nat) (hn : n ≤ 65536) (hQ : ∀ i, i < n → 0 ≤ Q i ∧ Q i ≤ 4294967295) (k : Nat) (hk : k < n) :
    Small (run R Q k) ∧ Small (run R Q (k + 1)) ∧ 0 ≤ spUp (run R Q (k + 1)) ∧ 0 ≤ (run R Q (k + 1)).down ∧ 0 ≤ spUnk (run R Q (k + 1)) ∧
      spUp (run R Q (k + 1)) + (run R Q (k + 1)).down + spUnk (run R Q (k + 1)) = lostN R (k + 1) ∧ (run R Q k).down ≤ (run R Q (k + 1)).down := by
  have h := run_sum R Q n hQ k (by omega)
  have h' := run_sum R Q n hQ (k + 1) (by omega)
  have l := lostN_le R k
  have l' := lostN_le R (k + 1)
  have sp := sp_sum h'
  refine ⟨h.small (by omega), h'.small (by omega), sp.1, h'.down0, sp.2.1, sp.2.2, ?_⟩
  simp only [run]
  split
  · exact (reply_sum h (Q k) (hQ k (by omega)).1 (hQ k (by omega)).2).2
  · exact Int.le_refl _

end Go.Proofs.Qxb6602140a.loss
