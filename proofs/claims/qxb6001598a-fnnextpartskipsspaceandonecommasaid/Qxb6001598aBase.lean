import Derived.Test.Qxb6001598aRows
import Derived.WalkKit
import Derived.Below
import Derived.WalkLawsBesides
import Derived.WalkSpells
import Derived.Laws.AppendOwnNone
namespace Go.Proofs.Qxb6001598a.base
open Go.RowKit

theorem info5 : (Try.prog.info? 5).map (fun i => (i.zero, i.size, i.bytes)) = some (some (.int .u8 0), 1, 1) := by kernel_rfl

/-- The slice value v, of n bytes, is the call's own (from block B on) and holds the bytes l. -/
def Own (w : World) (B : Nat) (v : Value) (n : Nat) (l : List Int) : Prop := w.ownsRow B 5 1 v n (l.map (Value.int .u8))

theorem Own.len {w : World} {B : Nat} {v : Value} {n : Nat} {l : List Int} (h : Own w B v n l) : l.length = n := by
  have := h.1
  simpa using this
theorem Own.shape {w : World} {B : Nat} {v : Value} {n : Nat} {l : List Int} (h : Own w B v n l) : ∃ ao cap, v = .slice ao n cap := by
  rcases h.2 with ⟨rfl, rfl⟩ | ⟨g, cap, cur, rfl, _⟩
  · exact ⟨_, _, rfl⟩
  · exact ⟨_, _, rfl⟩
theorem Own.alloc {w : World} {B : Nat} {v : Value} {n : Nat} {l : List Int} (h : Own w B v n l) (o : Obj) : Own (w.alloc o) B v n l := World.ownsRow.alloc h o
theorem Own.block {w : World} {B : Nat} {v : Value} {n : Nat} {l : List Int} (h : Own w B v n l) (k : Nat) (e : v.ownBlock = some k) : B ≤ k := by
  rcases h.2 with ⟨rfl, rfl⟩ | ⟨g, cap, cur, rfl, hg, _⟩
  · cases e
  · simp [Value.ownBlock] at e
    omega
/-- A slice that holds something lies at a plain address; its cells. -/
theorem Own.cells {w : World} {B : Nat} {v : Value} {n : Nat} {l : List Int} (h : Own w B v n l) (hn : 0 < n) :
    ∃ g cap, v = .slice (some ⟨g, 0, none⟩) n cap ∧ ∀ j, j < n → w.cell? ⟨g, j, none⟩ = some (.int .u8 (l.getD j 0)) := by
  have hl := h.len
  rcases h.2 with ⟨_, rfl⟩ | ⟨g, cap, cur, rfl, _, hh, hc, _, hsz, htk⟩
  · omega
  · refine ⟨g, cap, rfl, fun j hj => ?_⟩
    have e : cur.toList[j]? = (l.map (Value.int .u8))[j]? := by
      rw [← htk, List.getElem?_take_of_lt (by omega)]
    have e2 : cur[j]? = some (.int .u8 (l.getD j 0)) := by
      rw [← Array.getElem?_toList, e]
      simp [List.getElem?_eq_getElem (show j < l.length by omega)]
    simp [World.cell?, hh, e2]

/-- What is appended: a slice of m bytes, nil or not. -/
def SrcB (w : World) (ao : Option Addr) (m c : Nat) (news : List Int) : Prop :=
  news.length = m ∧ (ao = none → m = 0 ∧ c = 0) ∧ ∀ ad, ao = some ad → ∀ j, j < m → w.cell? (ad.add j) = some (.int .u8 (news.getD j 0))

theorem SrcB.one (w : World) (x : Int) : SrcB (w.alloc (.cells #[.int .u8 x] 5)) (some ⟨w.heap.size, 0, none⟩) 1 1 [x] := by
  refine ⟨rfl, (fun h => by cases h), fun ad h j hj => ?_⟩
  cases h
  obtain rfl : j = 0 := by omega
  simp [Addr.add]

theorem SrcB.below {w w' : World} {ao : Option Addr} {m c : Nat} {news : List Int} (h : SrcB w ao m c news) (hb : Below w.heap.size w w') : SrcB w' ao m c news := by
  refine ⟨h.1, h.2.1, fun ad e j hj => ?_⟩
  have hc := h.2.2 ad e j hj
  have hlt : (ad.add j).block < w.heap.size := by
    by_cases hb : (ad.add j).block < w.heap.size
    · exact hb
    · simp [World.cell?, show w.heap[(ad.add j).block]? = none from by simp; omega] at hc
  exact (hb.cell hlt).trans hc

/-- 'append(s, x...)', s the call's own. -/
theorem appB {w : World} {ops : Array Oper} {rest : List Oper} {o : Oper} {a : Act} {Q : Exit → Act → World → Prop} (hgd : o.guard = none) (s x : Operand)
    (ho : o.op = .call { callee := .builtin .append, args := #[s, x], argTypes := #[22, 22] })
    (B : Nat) (v : Value) (n : Nat) (l : List Int) (hs : a.eval s = v) (hown : Own w B v n l)
    (ao : Option Addr) (m c : Nat) (news : List Int) (hx : a.eval x = .slice ao m c) (hsrc : SrcB w ao m c news) (hnm : n + m ≤ 100000000) (hbase : B ≤ w.heap.size)
    (h : ∀ ao' cap' w', Own w' B (.slice ao' (n + m) cap') (n + m) (l ++ news) → Below B w w' → wpList Try.prog ops Q rest (a.put o.dst (.slice ao' (n + m) cap')) w') :
    wpList Try.prog ops Q (o :: rest) a w := by
  obtain ⟨i0, hi, hz0, hz1, hz2⟩ := info_parts info5
  obtain ⟨hl, hnil, hcell⟩ := hsrc
  cases ao with
  | none =>
    obtain ⟨rfl, rfl⟩ := hnil rfl
    obtain rfl : news = [] := List.eq_nil_of_length_eq_zero hl
    refine wpList_append_own_none hgd s x 22 ho B 5 i0 1 Try.underlying22 hi v n _ hs hown hx ?_
    obtain ⟨ao', cap', rfl⟩ := hown.shape
    have := h ao' cap' w (by simpa using hown) (Below.refl _ _)
    simpa using this
  | some ad =>
    refine wpList_append_own w hgd s x 22 ho B 5 i0 (.int .u8 0) 1 1 Try.underlying22 hi hz0 hz1 hz2 rfl (by decide) v n _ hs hown ad m c (news.map (Value.int .u8)) hx (by simpa using hl) ?_ ?_ (by unfold maxLen; omega) (by omega) hbase ?_
    · intro j u hj
      have hjm : j < m := by
        have := (List.getElem?_eq_some_iff.1 hj).1
        simpa [hl] using this
      rw [hcell ad rfl j hjm, ← hj]
      simp [List.getElem?_eq_getElem (show j < news.length by omega)]
    · intro u hu
      obtain ⟨_, _, rfl⟩ := List.mem_map.1 hu
      rfl
    · intro v' w' hown' hgrow _
      have ho' : Own w' B v' (n + m) (l ++ news) := by simpa [Own] using hown'
      obtain ⟨ao', cap', rfl⟩ := ho'.shape
      exact h ao' cap' w' ho' ((Below.refl _ _).grown hgrow hbase (fun k hk => hown.block k hk))
end Go.Proofs.Qxb6001598a.base
