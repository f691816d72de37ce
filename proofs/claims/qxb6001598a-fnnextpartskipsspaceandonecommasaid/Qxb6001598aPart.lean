import Derived.Test.Qxb6001598aNext
namespace Go.Proofs.Qxb6001598a.base
open Go.RowKit

set_option maxHeartbeats 1600000 in
theorem part_none (a0 a1 a3 a5 : Option Addr) (n0 c0 n1 c1 n3 c3 n5 c5 : Nat) (x : Int) (z0 z1 z5 : List Int) (w : World) (h : n0 + n1 + n3 + n5 ≤ 1048576) (hx : ¬ IsS x) (h44 : x ≠ 44)
    (h0 : ArgB w w.heap.size a0 n0 c0 z0) (h1 : ArgB w w.heap.size a1 n1 c1 z1) (h5 : ArgB w w.heap.size a5 n5 c5 z5) :
    Calls Try.prog 4 #[.slice a0 n0 c0, .slice a1 n1 c1, .bool false, .slice a3 n3 c3, .int .u8 x, .slice a5 n5 c5] w fun e w' => e = .returned (.bool true) ∧ Below w.heap.size w w' := by
  have d1 : decide ((1048576 : Int) < (n0 : Int)) = false := by simp; omega
  have d2 : decide ((1048576 : Int) < (n1 : Int)) = false := by simp; omega
  have d3 : decide ((1048576 : Int) < (n3 : Int)) = false := by simp; omega
  have d4 : decide ((1048576 : Int) < (n5 : Int)) = false := by simp; omega
  have d7 : decide ((1048576 : Int) < (n0 : Int) + (n1 : Int) + (n3 : Int) + (n5 : Int)) = false := by simp; omega
  have d8 : (x == 44) = false := by simpa using h44
  have HX : Hid (¬ IsS x) := hx
  have H44 : Hid (x ≠ 44) := h44
  clear hx h44
  obtain ⟨i0, hi, hz0, hz1, hz2⟩ := info_parts info5
  go_enter Try.func4, Try.ntmps4
  go_wp2_with (first
    | (go_at_call 10; refine (zb10_yes a0 a1 a3 a5 n0 c0 n1 c1 n3 c3 n5 c5 false x _ h).mono ?_; rintro e w' ⟨rfl, rfl⟩)
    | (go_at_call 11; refine (isspace_no x _ HX.out).mono ?_; rintro e w' ⟨rfl, rfl⟩)
    | (at_make; refine wpList_make_own _ rfl _ _ 22 rfl w.heap.size 5 i0 (.int .u8 0) 1 Try.underlying22 hi hz0 hz1 _ _ _ (n0 + n1 + n3 + n5 + 2) rfl rfl (by omega) (by rw [hz2]; omega) (by unfold maxLen; omega) (Nat.le_refl _) ?_; intro w1 hown1 hgrow1; have hb1 : Below w.heap.size w w1 := (Below.refl _ _).grown hgrow1 (Nat.le_refl _) (fun k hk => by cases hk); have hz1' := hb1.size)
    | (at_builtin; refine appB rfl (.tmp 75) (.tmp 76) rfl w.heap.size _ 0 [] rfl hown1 a0 n0 c0 z0 rfl (h0.below hb1).src (by omega) (by omega) ?_; intro ao3 cap3 w3 hown3 hb3; have hb3' := hb1.trans hb3; have hz3 := hb3'.size; simp only [Nat.zero_add, List.nil_append] at hown3)
    | (go_at_call 12; refine (spaces_any w.heap.size _ _ n1 c1 _ a1 z0 z1 _ hown3 (by omega) hz3 (by omega) (h1.below hb3')).mono ?_; rintro e w4 ⟨ao4, cap4, rfl, hown4, hb4⟩; have hb4' := hb3'.trans hb4; have hz4 := hb4'.size)
    | (at_builtin; refine appB rfl (.tmp 92) (.tmp 94) rfl w.heap.size _ (n0 + n1) _ rfl (hown4.alloc _) _ _ _ [_] rfl (SrcB.one _ _) (by omega) (by simp; omega) ?_; intro ao5 cap5 w5 hown5 hb5; have hb5' := (hb4'.alloc hz4 _).trans hb5; have hz5 := hb5'.size)
    | (at_builtin; refine appB rfl (.tmp 96) (.tmp 97) rfl w.heap.size _ (n0 + n1 + 1) _ rfl hown5 a5 n5 c5 z5 rfl (h5.below hb5').src (by omega) (by omega) ?_; intro ao6 cap6 w6 hown6 hb6; have hb6' := hb5'.trans hb6)
    | (go_at_call 13; refine (own_none hown6 (by omega) h0.1 h1.1 HX.out H44.out).mono ?_; rintro e w7 ⟨rfl, rfl⟩))
  go_ret
  exact ⟨rfl, hb6'⟩

set_option maxHeartbeats 1600000 in
theorem part_comma (a0 a1 a3 a5 : Option Addr) (n0 c0 n1 c1 n3 c3 n5 c5 : Nat) (x : Int) (z0 z1 z3 z5 : List Int) (w : World) (h : n0 + n1 + n3 + n5 ≤ 1048576) (hx : ¬ IsS x)
    (h0 : ArgB w w.heap.size a0 n0 c0 z0) (h1 : ArgB w w.heap.size a1 n1 c1 z1) (h3 : ArgB w w.heap.size a3 n3 c3 z3) (h5 : ArgB w w.heap.size a5 n5 c5 z5) :
    Calls Try.prog 4 #[.slice a0 n0 c0, .slice a1 n1 c1, .bool true, .slice a3 n3 c3, .int .u8 x, .slice a5 n5 c5] w fun e w' => e = .returned (.bool true) ∧ Below w.heap.size w w' := by
  have d1 : decide ((1048576 : Int) < (n0 : Int)) = false := by simp; omega
  have d2 : decide ((1048576 : Int) < (n1 : Int)) = false := by simp; omega
  have d3 : decide ((1048576 : Int) < (n3 : Int)) = false := by simp; omega
  have d4 : decide ((1048576 : Int) < (n5 : Int)) = false := by simp; omega
  have d7 : decide ((1048576 : Int) < (n0 : Int) + (n1 : Int) + (n3 : Int) + (n5 : Int)) = false := by simp; omega
  have HX : Hid (¬ IsS x) := hx
  clear hx
  obtain ⟨i0, hi, hz0, hz1, hz2⟩ := info_parts info5
  go_enter Try.func4, Try.ntmps4
  go_wp2_with (first
    | (go_at_call 10; refine (zb10_yes a0 a1 a3 a5 n0 c0 n1 c1 n3 c3 n5 c5 true x _ h).mono ?_; rintro e w' ⟨rfl, rfl⟩)
    | (go_at_call 11; refine (isspace_no x _ HX.out).mono ?_; rintro e w' ⟨rfl, rfl⟩)
    | (at_make; refine wpList_make_own _ rfl _ _ 22 rfl w.heap.size 5 i0 (.int .u8 0) 1 Try.underlying22 hi hz0 hz1 _ _ _ (n0 + n1 + n3 + n5 + 2) rfl rfl (by omega) (by rw [hz2]; omega) (by unfold maxLen; omega) (Nat.le_refl _) ?_; intro w1 hown1 hgrow1; have hb1 : Below w.heap.size w w1 := (Below.refl _ _).grown hgrow1 (Nat.le_refl _) (fun k hk => by cases hk); have hz1' := hb1.size)
    | (at_builtin; refine appB rfl (.tmp 75) (.tmp 76) rfl w.heap.size _ 0 [] rfl hown1 a0 n0 c0 z0 rfl (h0.below hb1).src (by omega) (by omega) ?_; intro ao3 cap3 w3 hown3 hb3; have hb3' := hb1.trans hb3; have hz3 := hb3'.size; simp only [Nat.zero_add, List.nil_append] at hown3)
    | (at_builtin; refine appB rfl (.tmp 84) (.tmp 85) rfl w.heap.size _ (n0 + n1) _ rfl (hown4.alloc _) _ _ _ [_] rfl (SrcB.one _ _) (by omega) (by simp; omega) ?_; intro ao5 cap5 w5 hown5 hb5; have hb5' := (hb4'.alloc hz4 _).trans hb5; have hz5 := hb5'.size)
    | (go_at_call 12; refine (spaces_any w.heap.size _ _ n1 c1 _ a1 z0 z1 _ hown3 (by omega) hz3 (by omega) (h1.below hb3')).mono ?_; rintro e w4 ⟨ao4, cap4, rfl, hown4, hb4⟩; have hb4' := hb3'.trans hb4; have hz4 := hb4'.size; clear hown3))
  refine (spaces_any w.heap.size _ _ n3 c3 _ a3 _ z3 _ hown5 (by omega) hz5 (by omega) (h3.below hb5')).mono ?_
  rintro e w7 ⟨ao7, cap7, rfl, hown7, hb7⟩
  have hb7' := hb5'.trans hb7
  have hz7 := hb7'.size
  go_wp2_with (first
    | (at_builtin; refine appB rfl (.tmp 92) (.tmp 94) rfl w.heap.size _ (n0 + n1 + 1 + n3) _ rfl (hown7.alloc _) _ _ _ [_] rfl (SrcB.one _ _) (by omega) (by simp; omega) ?_; intro ao8 cap8 w8 hown8 hb8; have hb8' := (hb7'.alloc hz7 _).trans hb8; have hz8 := hb8'.size)
    | (at_builtin; refine appB rfl (.tmp 96) (.tmp 97) rfl w.heap.size _ (n0 + n1 + 1 + n3 + 1) _ rfl hown8 a5 n5 c5 z5 rfl (h5.below hb8').src (by omega) (by omega) ?_; intro ao9 cap9 w9 hown9 hb9; have hb9' := hb8'.trans hb9)
    | (go_at_call 13; refine (own_comma hown9 (by omega) h0.1 h1.1 h3.1 HX.out).mono ?_; rintro e wx ⟨rfl, rfl⟩))
  go_ret
  exact ⟨rfl, hb9'⟩

theorem part_any (a0 a1 a3 a5 : Option Addr) (n0 c0 n1 c1 n3 c3 n5 c5 : Nat) (cm : Bool) (x : Int) (z0 z1 z3 z5 : List Int) (w : World)
    (h0 : ArgB w w.heap.size a0 n0 c0 z0) (h1 : ArgB w w.heap.size a1 n1 c1 z1) (h3 : ArgB w w.heap.size a3 n3 c3 z3) (h5 : ArgB w w.heap.size a5 n5 c5 z5) :
    Calls Try.prog 4 #[.slice a0 n0 c0, .slice a1 n1 c1, .bool cm, .slice a3 n3 c3, .int .u8 x, .slice a5 n5 c5] w fun e w' => e = .returned (.bool true) ∧ Below w.heap.size w w' := by
  by_cases h : n0 + n1 + n3 + n5 ≤ 1048576
  · by_cases hx : IsS x
    · exact next_space a0 a1 a3 a5 n0 c0 n1 c1 n3 c3 n5 c5 cm x w h hx
    · cases cm
      · by_cases h44 : x = 44
        · subst h44
          exact next_44 a0 a1 a3 a5 n0 c0 n1 c1 n3 c3 n5 c5 w h
        · exact part_none a0 a1 a3 a5 n0 c0 n1 c1 n3 c3 n5 c5 x z0 z1 z5 w h hx h44 h0 h1 h5
      · exact part_comma a0 a1 a3 a5 n0 c0 n1 c1 n3 c3 n5 c5 x z0 z1 z3 z5 w h hx h0 h1 h3 h5
  · exact next_huge a0 a1 a3 a5 n0 c0 n1 c1 n3 c3 n5 c5 cm x w (by omega)
end Go.Proofs.Qxb6001598a.base
