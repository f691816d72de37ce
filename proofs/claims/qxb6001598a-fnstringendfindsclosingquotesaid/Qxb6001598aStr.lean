import Derived.Test.Qxb6001598aSend
namespace Go.Proofs.Qxb6001598a.base
open Go.RowKit

theorem zb7_yes (a0 a2 a3 : Option Addr) (n0 c0 n2 c2 n3 c3 : Nat) (s : ByteArray) (w : World) (h : n0 + s.size + n2 + n3 ≤ 1048576) :
    Calls Try.prog 7 #[.slice a0 n0 c0, .string s, .slice a2 n2 c2, .slice a3 n3 c3] w fun e w' => e = .returned (.bool true) ∧ w = w' := by
  have d1 : decide ((1048576 : Int) < (n0 : Int)) = false := by simp; omega
  have d2 : decide ((1048576 : Int) < (s.size : Int)) = false := by simp; omega
  have d3 : decide ((1048576 : Int) < (n2 : Int)) = false := by simp; omega
  have d4 : decide ((1048576 : Int) < (n3 : Int)) = false := by simp; omega
  have d5 : decide ((1048576 : Int) < (n0 : Int) + (s.size : Int)) = false := by simp; omega
  have d6 : decide ((1048576 : Int) < (n0 : Int) + (s.size : Int) + (n2 : Int)) = false := by simp; omega
  have d7 : decide ((1048576 : Int) < (n0 : Int) + (s.size : Int) + (n2 : Int) + (n3 : Int)) = false := by simp; omega
  go_enter Try.func7, Try.ntmps7
  go_wp2
  go_ret
  exact ⟨rfl, rfl⟩

set_option maxHeartbeats 800000 in
theorem zb7_no (a0 a2 a3 : Option Addr) (n0 c0 n2 c2 n3 c3 : Nat) (s : ByteArray) (w : World) (h : 1048576 < n0 + s.size + n2 + n3) :
    Calls Try.prog 7 #[.slice a0 n0 c0, .string s, .slice a2 n2 c2, .slice a3 n3 c3] w fun e w' => e = .returned (.bool false) ∧ w = w' := by
  have hh : (1048576 : Int) < (n0 : Int) + (s.size : Int) + (n2 : Int) + (n3 : Int) := by omega
  go_enter Try.func7, Try.ntmps7
  go_wp2
  all_goals (go_ret; exact ⟨rfl, rfl⟩)

theorem str_huge (a0 a2 a3 : Option Addr) (n0 c0 n2 c2 n3 c3 : Nat) (s : ByteArray) (w : World) (h : 1048576 < n0 + s.size + n2 + n3) :
    Calls Try.prog 3 #[.slice a0 n0 c0, .string s, .slice a2 n2 c2, .slice a3 n3 c3] w fun e w' => e = .returned (.bool true) ∧ Below w.heap.size w w' := by
  go_enter Try.func3, Try.ntmps3
  go_wp2_with (go_at_call 7; refine (zb7_no a0 a2 a3 n0 c0 n2 c2 n3 c3 s _ h).mono ?_; rintro e w' ⟨rfl, rfl⟩)
  go_ret
  exact ⟨rfl, Below.refl _ _⟩

/-- ZZStringEnd over a slice of the call's own that holds what the law has built. -/
theorem send_own {w : World} {B n cap n0 N : Nat} {ao : Option Addr} {z0 z3 : List Int} {cs : List (List Int)} (hown : Own w B (.slice ao n cap) n (z0 ++ 34 :: (cs.flatten ++ [34]) ++ z3)) (hn : n ≤ 100000000)
    (h0 : z0.length = n0) (hN : (z0 ++ 34 :: (cs.flatten ++ [34])).length = N) (hch : ∀ ch ∈ cs, Chunk ch) :
    Calls Try.prog 9 #[.slice ao n cap, .int .i64 n0] w fun e w' => e = .returned (.int .i64 (N : Int)) ∧ w = w' := by
  have hl := hown.len
  have e : z0 ++ 34 :: (cs.flatten ++ [34]) ++ z3 = z0 ++ 34 :: (cs.flatten ++ 34 :: z3) := by simp
  rw [e] at hown hl
  obtain ⟨g, cap', hv, hcell⟩ := hown.cells (by rw [← hl, List.length_append, List.length_cons]; omega)
  injection hv with h1 _ h2
  subst h1 h2 h0
  refine zzsend_any g n cap N z0 z3 cs w hl hn hcell hch ?_
  rw [← hN, List.length_append, List.length_cons, List.length_append]
  simp only [List.length_cons, List.length_nil]
  omega

set_option maxHeartbeats 800000 in
theorem str_in (a0 a2 a3 : Option Addr) (n0 c0 n2 c2 n3 c3 : Nat) (s : ByteArray) (z0 z2 z3 : List Int) (w : World) (h : n0 + s.size + n2 + n3 ≤ 1048576)
    (h0 : ArgB w w.heap.size a0 n0 c0 z0) (h2 : ArgB w w.heap.size a2 n2 c2 z2) (h3 : ArgB w w.heap.size a3 n3 c3 z3) :
    Calls Try.prog 3 #[.slice a0 n0 c0, .string s, .slice a2 n2 c2, .slice a3 n3 c3] w fun e w' => e = .returned (.bool true) ∧ Below w.heap.size w w' := by
  have d1 : decide ((1048576 : Int) < (n0 : Int)) = false := by simp; omega
  have d2 : decide ((1048576 : Int) < (s.size : Int)) = false := by simp; omega
  have d3 : decide ((1048576 : Int) < (n2 : Int)) = false := by simp; omega
  have d4 : decide ((1048576 : Int) < (n3 : Int)) = false := by simp; omega
  have d7 : decide ((1048576 : Int) < (n0 : Int) + (s.size : Int) + (n2 : Int) + (n3 : Int)) = false := by simp; omega
  obtain ⟨i0, hi, hz0, hz1, hz2⟩ := info_parts info5
  go_enter Try.func3, Try.ntmps3
  go_wp2_with (first
    | (go_at_call 7; refine (zb7_yes a0 a2 a3 n0 c0 n2 c2 n3 c3 s _ h).mono ?_; rintro e w' ⟨rfl, rfl⟩)
    | (at_make; refine wpList_make_own _ rfl _ _ 22 rfl w.heap.size 5 i0 (.int .u8 0) 1 Try.underlying22 hi hz0 hz1 _ _ _ (n0 + 2 * s.size + 2 + n3) rfl rfl (by omega) (by rw [hz2]; omega) (by unfold maxLen; omega) (Nat.le_refl _) ?_; intro w1 hown1 hgrow1; have hb1 : Below w.heap.size w w1 := (Below.refl _ _).grown hgrow1 (Nat.le_refl _) (fun k hk => by cases hk); have hz1' := hb1.size)
    | (at_builtin; refine appB rfl (.tmp 59) (.tmp 60) rfl w.heap.size _ 0 [] rfl hown1 a0 n0 c0 z0 rfl (h0.below hb1).src (by omega) (by omega) ?_; intro ao3 cap3 w3 hown3 hb3; have hb3' := hb1.trans hb3; have hz3 := hb3'.size; simp only [Nat.zero_add, List.nil_append] at hown3)
    | (go_at_call 8; refine (enc_any w.heap.size _ _ n2 c2 _ a2 z0 z2 s _ hown3 (by omega) (by omega) hz3 (by omega) (h2.below hb3')).mono ?_; rintro e w4 ⟨cs, ao4, N4, cap4, rfl, hown4, hch, hN4, hb4⟩; have hb4' := hb3'.trans hb4; have hz4 := hb4'.size)
    | (at_builtin; refine appB rfl (.tmp 70) (.tmp 71) rfl w.heap.size _ N4 _ rfl hown4 a3 n3 c3 z3 rfl (h3.below hb4').src (by omega) (by omega) ?_; intro ao5 cap5 w5 hown5 hb5; have hb5' := hb4'.trans hb5)
    | (go_at_call 9; refine (send_own hown5 (by omega) h0.1 hown4.len hch).mono ?_; rintro e w6 ⟨rfl, rfl⟩))
  go_ret
  exact ⟨rfl, hb5'⟩

theorem str_any (a0 a2 a3 : Option Addr) (n0 c0 n2 c2 n3 c3 : Nat) (s : ByteArray) (z0 z2 z3 : List Int) (w : World)
    (h0 : ArgB w w.heap.size a0 n0 c0 z0) (h2 : ArgB w w.heap.size a2 n2 c2 z2) (h3 : ArgB w w.heap.size a3 n3 c3 z3) :
    Calls Try.prog 3 #[.slice a0 n0 c0, .string s, .slice a2 n2 c2, .slice a3 n3 c3] w fun e w' => e = .returned (.bool true) ∧ Below w.heap.size w w' := by
  by_cases h : n0 + s.size + n2 + n3 ≤ 1048576
  · exact str_in a0 a2 a3 n0 c0 n2 c2 n3 c3 s z0 z2 z3 w h h0 h2 h3
  · exact str_huge a0 a2 a3 n0 c0 n2 c2 n3 c3 s w (by omega)
end Go.Proofs.Qxb6001598a.base
