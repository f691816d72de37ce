import Derived.Test.Qxb6602140aRows
import Derived.WalkKit
import Derived.ProofKit
import Derived.OpenShut
import Derived.ShutString
import Derived.ChangeOld
import Derived.Below
import Derived.Deep.QuietTactic
import Derived.BigQuiet
import Derived.WalkLawsBesides
import Derived.LaidEqlPtr
namespace Go.Proofs.Qxb6602140a.fnDifferenceInverse
open Go.ChangeShapes Go.WideShapes Go.ChangeAt Go.RowKit

theorem own : ownKnob Try.prog.godebug = none := by kernel_rfl
theorem laidOut : laidOutB Try.prog = true := by kernel_rfl
theorem cells2 : Try.prog.cellsOf 2 = 1 := by kernel_rfl

/-! ### difference, number 14 -/
set_option maxHeartbeats 400000 in
theorem diff_nil1 (v : Option Addr) (w : World) :
    Calls Try.prog 14 #[.pointer none, .pointer v] w fun e w' => e = .returned (.pointer none) ∧ w' = w := by
  go_enter Try.func14, Try.ntmps14
  go_wp2
  go_ret
  exact ⟨rfl, rfl⟩

set_option maxHeartbeats 400000 in
theorem diff_nil2 (a : Addr) (w : World) :
    Calls Try.prog 14 #[.pointer (some a), .pointer none] w fun e w' => e = .returned (.pointer none) ∧ w' = w := by
  go_enter Try.func14, Try.ntmps14
  go_wp2
  go_ret
  exact ⟨rfl, rfl⟩

theorem lt_of_cell {w : World} {b o : Nat} {v : Value} (h : w.cell? ⟨b, o, none⟩ = some v) : b < w.heap.size := by
  by_cases hb : b < w.heap.size
  · exact hb
  · simp [World.cell?, show w.heap[b]? = none from by simp; omega] at h

set_option maxHeartbeats 400000 in
theorem diff_some (b0 o0 b1 o1 : Nat) (x y : Int) (w : World) (hx : w.cell? ⟨b0, o0, none⟩ = some (.int .i64 x)) (hy : w.cell? ⟨b1, o1, none⟩ = some (.int .i64 y)) :
    Calls Try.prog 14 #[.pointer (some ⟨b0, o0, none⟩), .pointer (some ⟨b1, o1, none⟩)] w fun e w' =>
      e = .returned (.pointer (some ⟨w.heap.size, 0, none⟩)) ∧ w' = (w.alloc (.cells #[.int .i64 (wrap64 (x - y))] 2)).drew := by
  have l0 := lt_of_cell hx
  have l1 := lt_of_cell hy
  go_enter Try.func14, Try.ntmps14
  go_wp2
  go_region
  all_goals go_wp2
  all_goals (go_ret; exact ⟨rfl, rfl⟩)

/-! ### ZZDifference, number 8 -/
theorem zz_nil1 (v : Option Addr) (w : World) :
    Calls Try.prog 8 #[.pointer none, .pointer v] w fun e w' => e = .returned (.pointer none) ∧ w' = w := by
  go_enter Try.func8, Try.ntmps8
  go_wp2_with (go_at_call 14; refine (diff_nil1 v _).mono ?_; rintro e w' ⟨rfl, rfl⟩)
  go_ret
  exact ⟨rfl, rfl⟩

theorem zz_nil2 (a : Addr) (w : World) :
    Calls Try.prog 8 #[.pointer (some a), .pointer none] w fun e w' => e = .returned (.pointer none) ∧ w' = w := by
  go_enter Try.func8, Try.ntmps8
  go_wp2_with (go_at_call 14; refine (diff_nil2 a _).mono ?_; rintro e w' ⟨rfl, rfl⟩)
  go_ret
  exact ⟨rfl, rfl⟩

theorem zz_some (b0 o0 b1 o1 : Nat) (x y : Int) (w : World) (hx : w.cell? ⟨b0, o0, none⟩ = some (.int .i64 x)) (hy : w.cell? ⟨b1, o1, none⟩ = some (.int .i64 y)) :
    Calls Try.prog 8 #[.pointer (some ⟨b0, o0, none⟩), .pointer (some ⟨b1, o1, none⟩)] w fun e w' =>
      e = .returned (.pointer (some ⟨w.heap.size, 0, none⟩)) ∧ w' = (w.alloc (.cells #[.int .i64 (wrap64 (x - y))] 2)).drew := by
  go_enter Try.func8, Try.ntmps8
  go_wp2_with (go_at_call 14; refine (diff_some b0 o0 b1 o1 x y _ hx hy).mono ?_; rintro e w' ⟨rfl, rfl⟩)
  go_ret
  exact ⟨rfl, rfl⟩

/-! ### A fresh pointer is not an elder one: the model's '==' on two addresses in two blocks, the first one unmarked, the second one's cell there -/
theorem sameAddr_fresh {P : Program} (w : World) {a b : Addr} {ca : Array Value} {ta : TypeId} {v : Value} (hne : a.block ≠ b.block) (ha : w.heap[a.block]? = some (.cells ca ta (0, 0))) (hb : w.cell? b = some v) :
    (sameAddr a b).run P w = .ok false w := by
  obtain ⟨cb, tb, fr, hB, hsz⟩ : ∃ cb tb fr, w.heap[b.block]? = some (.cells cb tb fr) ∧ cb.size ≠ 0 := by
    unfold World.cell? at hb
    split at hb
    · rename_i c t fr hh
      refine ⟨c, t, fr, hh, ?_⟩
      split at hb
      · cases hb
      · intro h0
        rw [Array.getElem?_eq_none (by omega)] at hb
        cases hb
    · cases hb
  obtain ⟨lo, hi⟩ := fr
  simp [sameAddr, hne, World.frozen?, ha, hB, noView, viewAt, World.shape?, mayBeOne, stringish, hsz]

theorem eql_fresh {P : Program} (w : World) {tp te : TypeId} {j : TypeInfo} {a b : Addr} {ca : Array Value} {ta : TypeId} {v : Value} (hp : P.underlying tp = some (.pointer te)) (hte : P.info? te = some j) (hsz : j.size ≠ 0)
    (hne : a.block ≠ b.block) (ha : w.heap[a.block]? = some (.cells ca ta (0, 0))) (hb : w.cell? b = some v) :
    (binOp .eql tp (.pointer (some a)) (.pointer (some b))).run P w = .ok (.bool false) w := by
  have h : ∀ d : Nat, (Op.equalIn (d + 1) tp (.pointer (some a)) (.pointer (some b))).run P w = .ok false w := fun d => by
    simp [Op.equalIn, run_underlying hp, sizeOf, typeInfo, hte, hsz, sameAddr_fresh w hne ha hb]
  simp only [binOp]
  simp [Op.equal, Op.maxDepth, h 9999]

theorem info2 : ∃ j, Try.prog.info? 2 = some j ∧ j.size ≠ 0 := by
  have h : (match Try.prog.info? 2 with | some j => decide (j.size ≠ 0) | none => false) = true := by kernel_rfl
  revert h
  cases hj : Try.prog.info? 2 with
  | none => simp
  | some j => intro h; exact ⟨j, rfl, of_decide_eq_true h⟩

/-! ### The law, number 3 -/
theorem law_nil1 (v : Option Addr) (w : World) :
    Calls Try.prog 3 #[.pointer none, .pointer v] w fun e w' => e = .returned (.bool true) ∧ Below w.heap.size w w' := by
  go_enter Try.func3, Try.ntmps3
  go_wp2_with (go_at_call 8; refine (zz_nil1 v _).mono ?_; rintro e w' ⟨rfl, rfl⟩)
  go_ret
  exact ⟨rfl, Below.refl _ _⟩

theorem law_nil2 (a : Addr) (w : World) :
    Calls Try.prog 3 #[.pointer (some a), .pointer none] w fun e w' => e = .returned (.bool true) ∧ Below w.heap.size w w' := by
  go_enter Try.func3, Try.ntmps3
  go_wp2_with (go_at_call 8; refine (zz_nil2 a _).mono ?_; rintro e w' ⟨rfl, rfl⟩)
  go_ret
  exact ⟨rfl, Below.refl _ _⟩

theorem back (x y : Int) (hx : (Lit.int .i64 x).wf = true) : (wrap64 (wrap64 (x - y) + y) == x) = true := by
  simp [Lit.wf, IntKind.min, IntKind.max, IntKind.signed, IntKind.bits] at hx
  rw [beq_iff_eq]
  unfold wrap64
  omega

theorem law_some (b0 o0 b1 o1 : Nat) (x y : Int) (w : World) (hx : w.cell? ⟨b0, o0, none⟩ = some (.int .i64 x)) (hy : w.cell? ⟨b1, o1, none⟩ = some (.int .i64 y)) (wx : (Lit.int .i64 x).wf = true) :
    Calls Try.prog 3 #[.pointer (some ⟨b0, o0, none⟩), .pointer (some ⟨b1, o1, none⟩)] w fun e w' => e = .returned (.bool true) ∧ Below w.heap.size w w' := by
  have l0 := lt_of_cell hx
  have l1 := lt_of_cell hy
  have hb := back x y wx
  obtain ⟨j, hj, hsz⟩ := info2
  have e0 : ∀ c, (binOp .eql 22 (.pointer (some ⟨w.heap.size, 0, none⟩)) (.pointer (some ⟨b0, o0, none⟩))).run Try.prog (w.alloc (.cells c 2)).drew = .ok (.bool false) (w.alloc (.cells c 2)).drew := fun c =>
    eql_fresh (v := .int .i64 x) (ca := c) (ta := 2) _ Try.underlying22 hj hsz (by simp; omega) (MapKept.heap_alloc w _).1 ((World.cell?_alloc_lt (a := ⟨b0, o0, none⟩) w _ l0).trans hx)
  have e1 : ∀ c, (binOp .eql 22 (.pointer (some ⟨w.heap.size, 0, none⟩)) (.pointer (some ⟨b1, o1, none⟩))).run Try.prog (w.alloc (.cells c 2)).drew = .ok (.bool false) (w.alloc (.cells c 2)).drew := fun c =>
    eql_fresh (v := .int .i64 y) (ca := c) (ta := 2) _ Try.underlying22 hj hsz (by simp; omega) (MapKept.heap_alloc w _).1 ((World.cell?_alloc_lt (a := ⟨b1, o1, none⟩) w _ l1).trans hy)
  clear hj hsz
  go_enter Try.func3, Try.ntmps3
  go_wp2_with (go_at_call 8; refine (zz_some b0 o0 b1 o1 x y _ hx hy).mono ?_; rintro e w' ⟨rfl, rfl⟩)
  go_quiet (fail)
  go_wp2
  go_ret
  exact ⟨rfl, below_drewN (((Below.refl _ _).alloc (Nat.le_refl _) _).drew) _⟩

/-! ### The row -/
set_option maxRecDepth 100000 in
theorem lifted (os : Os) (started : os.Started) (H : Type) (enc : TypeId × Value → H) :
    ReturnsInHanded {} Try.checked os 3 .any (Rows.fnDifferenceInverseSpec.pre6 enc Try.prog Try.f3 Rows.fnDifferenceInverseRow.domain false) (Rows.fnDifferenceInverseSpec.post enc Try.prog Try.f3 false true false false) := by
  refine returnsInHanded_of_change (C := Try.checked) own started (by kernel_rfl) Try.func3
    (ChangeSpec.witness6 (enc := enc) (C := Try.checked) false ⟨#[], #[.pointer none, .pointer none], []⟩ 8 (by kernel_rfl) (by kernel_rfl) (by kernel_rfl) (by kernel_rfl)) ?_
  intro W base args ds gs before hval0 hW hcnd _
  have hval : ∀ (j : Nat) t v, Try.f3.params[j]? = some t → args[j]? = some v → Value.okWide Try.prog W .any base t v := hval0
  have hW' := hW
  obtain ⟨p, q, hA0, hV, rfl, hfz, hnd⟩ := hW
  have hA : DataW.TrodAll enc Try.prog W 0 (fun _ => true) true Try.f3.params.toList args.toList ds p := hA0
  rw [Try.params3] at hA hval
  obtain ⟨v0, vs0, d0, ds0, p0, q0, hargs, rfl, rfl, h0, r0⟩ := trodAll_cons hA
  obtain ⟨v1, vs1, d1, ds1, p1, q1, rfl, rfl, rfl, h1, r1⟩ := trodAll_cons r0
  obtain ⟨rfl, rfl, rfl⟩ := trodAll_nil r1
  obtain rfl : args = #[v0, v1] := by cases args; simp_all
  obtain ⟨rfl, rfl⟩ := trodVars_none hV
  have k0 := h0
  have k1 := h1
  have lt0 : ∀ x ∈ p0, x.block < W.heap.size := by obtain ⟨m, hm⟩ := k0; exact DataW.trod_lt m _ _ _ hm
  have lt1 : ∀ x ∈ p1, x.block < W.heap.size := by obtain ⟨m, hm⟩ := k1; exact DataW.trod_lt m _ _ _ hm
  have hwalk : Calls Try.prog 3 #[v0, v1] W fun e w' => e = .returned (.bool true) ∧ Below W.heap.size W w' := by
    rcases open_ptr_int Try.underlying22 Try.underlying2 cells2 (hval 0 22 v0 rfl rfl) h0 with ⟨rfl, _, _⟩ | ⟨b0, o0, x, rfl, _, _, g0, wx⟩
    · rcases open_ptr_int Try.underlying22 Try.underlying2 cells2 (hval 1 22 v1 rfl rfl) h1 with ⟨rfl, _, _⟩ | ⟨b1, o1, y, rfl, _, _, g1, wy⟩
      · exact law_nil1 _ W
      · exact law_nil1 _ W
    · rcases open_ptr_int Try.underlying22 Try.underlying2 cells2 (hval 1 22 v1 rfl rfl) h1 with ⟨rfl, _, _⟩ | ⟨b1, o1, y, rfl, _, _, g1, wy⟩
      · exact law_nil2 _ W
      · exact law_some b0 o0 b1 o1 x y W g0 g1 wx
  clear hA0 hval0
  refine hwalk.mono fun e W' ⟨he, bel⟩ => ?_
  subst he
  exact ⟨_, rfl, _, _, _, [], _, [], hW', trodAll_mk1 (shut_bool Try.underlying4 _), (trodAll_cons_mk (Below.trod laidOut (by kernel_rfl) (of_decide_eq_true (by kernel_rfl)) k0 bel lt0) (trodAll_cons_mk (Below.trod laidOut (by kernel_rfl) (of_decide_eq_true (by kernel_rfl)) k1 bel lt1) trodAll_mk0)), rfl, bel.frame _, fun h => by cases h⟩

theorem over : Rows.fnDifferenceInverseRow.holds Try.pinned (OpenSpec.ofChange Rows.fnDifferenceInverseSpec) :=
  OpenClaim.holds_of_wide 3 Try.f3 rfl rfl rfl rfl rfl rfl rfl ⟨rfl, rfl, rfl, rfl, rfl⟩ rfl rfl rfl rfl rfl (by kernel_rfl) Try.func3 (by kernel_rfl)
    (of_decide_eq_true (by kernel_rfl)) (by unfold Func.isWrapper; first | (rw [if_pos (by decide +kernel)]; kernel_rfl) | (rw [if_neg (by decide +kernel)]; exact ⟨rfl, rfl⟩))
    (fun os started H enc _ => lifted os started H enc)

/-- The statement. -/
theorem proved : Rows.FnDifferenceInverseSaid := over
#print axioms proved
end Go.Proofs.Qxb6602140a.fnDifferenceInverse
