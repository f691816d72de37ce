import Derived.Test.Qxb6001598aSkip
namespace Go.Proofs.Qxb6001598a.base
open Go.RowKit

theorem take_snoc (z : List Int) (k : Nat) (h : k < z.length) : (z.take (k + 1)).map sp = (z.take k).map sp ++ [sp (z.getD k 0)] := by
  have e : z.getD k 0 = z[k] := by simp [List.getD, List.getElem?_eq_getElem h]
  rw [List.take_succ_eq_append_getElem h, List.map_append, e, List.map_cons, List.map_nil]

set_option maxHeartbeats 800000 in
theorem spaces_any (B n cap0 len cap2 : Nat) (ao0 ao2 : Option Addr) (l z : List Int) (w : World) (hown : Own w B (.slice ao0 n cap0) n l) (hn : n ≤ 10000000) (hB : B ≤ w.heap.size)
    (hlen : len ≤ 1048576) (hws : ArgB w B ao2 len cap2 z) :
    Calls Try.prog 12 #[.slice ao0 n cap0, .slice ao2 len cap2] w fun e w' => ∃ (ao : Option Addr) (cap : Nat), e = .returned (.slice ao (n + len) cap) ∧
      Own w' B (.slice ao (n + len) cap) (n + len) (l ++ z.map sp) ∧ Below B w w' := by
  go_enter Try.func12, Try.ntmps12
  go_wp2
  go_loopw [0, 5] (fun out j wr => ∃ (k cap : Nat) (ao : Option Addr), k ≤ len ∧ j = .int .i64 k ∧ out = .slice ao (n + k) cap ∧ Own wr B (.slice ao (n + k) cap) (n + k) (l ++ (z.take k).map sp) ∧ Below B w wr) (fun _ j _ => len - (intOf j).toNat)
  case atStart => exact ⟨0, cap0, ao0, Nat.zero_le _, rfl, rfl, by simpa using hown, Below.refl _ _⟩
  case round =>
    obtain ⟨k, cap, ao, hk, rfl, rfl, hown, hb⟩ := hrel
    have hz := hb.size
    have hzl := hws.1
    by_cases hlt : k < len
    · rcases (hws.below hb).2 with h | ⟨b, off, rfl, hbB, hcell⟩
      · omega
      obtain ⟨g0, g1, g2⟩ := hcell k hlt
      have HT : Hid ((z.take (k + 1)).map sp = (z.take k).map sp ++ [sp (z.getD k 0)]) := take_snoc z k (by omega)
      clear hcell
      generalize z.getD k 0 = c at *
      go_wp2_with (first
        | (go_at_call 22; refine (space_any c _ g1 g2).mono ?_; rintro e w' ⟨rfl, rfl⟩)
        | (at_builtin; refine appB rfl (.tmp 12) (.tmp 18) rfl B _ (n + k) _ rfl (hown.alloc _) _ _ _ [_] rfl (SrcB.one _ _) (by omega) (by simp; omega) ?_; intro ao4 cap4 w4 hown4 hb4))
      go_roundw
      case rel => exact ⟨k + 1, cap4, ao4, by omega, by go_num, rfl, by rw [HT.out, ← List.append_assoc]; exact hown4, (hb.alloc (by omega) _).trans hb4⟩
      case measure => simp [intOf]; omega
    · obtain rfl : k = len := by omega
      go_wp2
      go_ret
      exact ⟨ao, cap, rfl, by rw [List.take_of_length_le (by omega)] at hown; exact hown, hb⟩

theorem zb10_yes (a0 a1 a3 a5 : Option Addr) (n0 c0 n1 c1 n3 c3 n5 c5 : Nat) (cm : Bool) (x : Int) (w : World) (h : n0 + n1 + n3 + n5 ≤ 1048576) :
    Calls Try.prog 10 #[.slice a0 n0 c0, .slice a1 n1 c1, .bool cm, .slice a3 n3 c3, .int .u8 x, .slice a5 n5 c5] w fun e w' => e = .returned (.bool true) ∧ w = w' := by
  have d1 : decide ((1048576 : Int) < (n0 : Int)) = false := by simp; omega
  have d2 : decide ((1048576 : Int) < (n1 : Int)) = false := by simp; omega
  have d3 : decide ((1048576 : Int) < (n3 : Int)) = false := by simp; omega
  have d4 : decide ((1048576 : Int) < (n5 : Int)) = false := by simp; omega
  have d5 : decide ((1048576 : Int) < (n0 : Int) + (n1 : Int)) = false := by simp; omega
  have d6 : decide ((1048576 : Int) < (n0 : Int) + (n1 : Int) + (n3 : Int)) = false := by simp; omega
  have d7 : decide ((1048576 : Int) < (n0 : Int) + (n1 : Int) + (n3 : Int) + (n5 : Int)) = false := by simp; omega
  go_enter Try.func10, Try.ntmps10
  go_wp2
  go_ret
  exact ⟨rfl, rfl⟩

set_option maxHeartbeats 800000 in
theorem zb10_no (a0 a1 a3 a5 : Option Addr) (n0 c0 n1 c1 n3 c3 n5 c5 : Nat) (cm : Bool) (x : Int) (w : World) (h : 1048576 < n0 + n1 + n3 + n5) :
    Calls Try.prog 10 #[.slice a0 n0 c0, .slice a1 n1 c1, .bool cm, .slice a3 n3 c3, .int .u8 x, .slice a5 n5 c5] w fun e w' => e = .returned (.bool false) ∧ w = w' := by
  have hh : (1048576 : Int) < (n0 : Int) + (n1 : Int) + (n3 : Int) + (n5 : Int) := by omega
  go_enter Try.func10, Try.ntmps10
  go_wp2
  all_goals (go_ret; exact ⟨rfl, rfl⟩)

theorem next_huge (a0 a1 a3 a5 : Option Addr) (n0 c0 n1 c1 n3 c3 n5 c5 : Nat) (cm : Bool) (x : Int) (w : World) (h : 1048576 < n0 + n1 + n3 + n5) :
    Calls Try.prog 4 #[.slice a0 n0 c0, .slice a1 n1 c1, .bool cm, .slice a3 n3 c3, .int .u8 x, .slice a5 n5 c5] w fun e w' => e = .returned (.bool true) ∧ Below w.heap.size w w' := by
  go_enter Try.func4, Try.ntmps4
  go_wp2_with (go_at_call 10; refine (zb10_no a0 a1 a3 a5 n0 c0 n1 c1 n3 c3 n5 c5 cm x _ h).mono ?_; rintro e w' ⟨rfl, rfl⟩)
  go_ret
  exact ⟨rfl, Below.refl _ _⟩

theorem next_space (a0 a1 a3 a5 : Option Addr) (n0 c0 n1 c1 n3 c3 n5 c5 : Nat) (cm : Bool) (x : Int) (w : World) (h : n0 + n1 + n3 + n5 ≤ 1048576) (hx : IsS x) :
    Calls Try.prog 4 #[.slice a0 n0 c0, .slice a1 n1 c1, .bool cm, .slice a3 n3 c3, .int .u8 x, .slice a5 n5 c5] w fun e w' => e = .returned (.bool true) ∧ Below w.heap.size w w' := by
  have d1 : decide ((1048576 : Int) < (n0 : Int)) = false := by simp; omega
  have d2 : decide ((1048576 : Int) < (n1 : Int)) = false := by simp; omega
  have d3 : decide ((1048576 : Int) < (n3 : Int)) = false := by simp; omega
  have d4 : decide ((1048576 : Int) < (n5 : Int)) = false := by simp; omega
  have d7 : decide ((1048576 : Int) < (n0 : Int) + (n1 : Int) + (n3 : Int) + (n5 : Int)) = false := by simp; omega
  go_enter Try.func4, Try.ntmps4
  go_wp2_with (first
    | (go_at_call 10; refine (zb10_yes a0 a1 a3 a5 n0 c0 n1 c1 n3 c3 n5 c5 cm x _ h).mono ?_; rintro e w' ⟨rfl, rfl⟩)
    | (go_at_call 11; refine (isspace_yes x _ hx).mono ?_; rintro e w' ⟨rfl, rfl⟩))
  go_ret
  exact ⟨rfl, Below.refl _ _⟩

theorem next_44 (a0 a1 a3 a5 : Option Addr) (n0 c0 n1 c1 n3 c3 n5 c5 : Nat) (w : World) (h : n0 + n1 + n3 + n5 ≤ 1048576) :
    Calls Try.prog 4 #[.slice a0 n0 c0, .slice a1 n1 c1, .bool false, .slice a3 n3 c3, .int .u8 44, .slice a5 n5 c5] w fun e w' => e = .returned (.bool true) ∧ Below w.heap.size w w' := by
  have d1 : decide ((1048576 : Int) < (n0 : Int)) = false := by simp; omega
  have d2 : decide ((1048576 : Int) < (n1 : Int)) = false := by simp; omega
  have d3 : decide ((1048576 : Int) < (n3 : Int)) = false := by simp; omega
  have d4 : decide ((1048576 : Int) < (n5 : Int)) = false := by simp; omega
  have d7 : decide ((1048576 : Int) < (n0 : Int) + (n1 : Int) + (n3 : Int) + (n5 : Int)) = false := by simp; omega
  go_enter Try.func4, Try.ntmps4
  go_wp2_with (first
    | (go_at_call 10; refine (zb10_yes a0 a1 a3 a5 n0 c0 n1 c1 n3 c3 n5 c5 false 44 _ h).mono ?_; rintro e w' ⟨rfl, rfl⟩)
    | (go_at_call 11; refine (isspace_no 44 _ (by simp [IsS])).mono ?_; rintro e w' ⟨rfl, rfl⟩))
  go_ret
  exact ⟨rfl, Below.refl _ _⟩

theorem zznext_of (a : Option Addr) (n cap p r : Nat) (w : World) (h : Calls Try.prog 23 #[.slice a n cap, .int .i64 p] w fun e w' => e = .returned (.int .i64 r) ∧ w = w') :
    Calls Try.prog 13 #[.slice a n cap, .int .i64 p] w fun e w' => e = .returned (.int .i64 r) ∧ w = w' := by
  have H : Hid (Calls Try.prog 23 #[.slice a n cap, .int .i64 p] w fun e w' => e = .returned (.int .i64 r) ∧ w = w') := h
  clear h
  go_enter Try.func13, Try.ntmps13
  go_wp2_with (go_at_call 23; refine H.out.mono ?_; rintro e w' ⟨rfl, rfl⟩)
  go_ret
  exact ⟨rfl, rfl⟩

/-! ### Plain facts on the bytes that the law lays -/
theorem mid_space (A z T : List Int) (j : Nat) (h1 : A.length ≤ j) (h2 : j < A.length + z.length) : IsS ((A ++ (z.map sp ++ T)).getD j 0) := by
  have e : (A ++ (z.map sp ++ T)).getD j 0 = sp (z[j - A.length]'(by omega)) := by
    rw [List.getD, List.getElem?_append_right h1, List.getElem?_append_left (by simp; omega)]
    simp [List.getElem?_eq_getElem (show j - A.length < z.length by omega)]
  rw [e]
  exact sp_space _
theorem mid_at (A : List Int) (c : Int) (T : List Int) : (A ++ c :: T).getD A.length 0 = c := by simp [List.getD]

/-- What ZZNextPart gives over what the law has built without a comma. -/
theorem own_none {w : World} {B n cap n0 : Nat} {ao : Option Addr} {z0 z1 z5 : List Int} {x : Int} (hown : Own w B (.slice ao n cap) n (z0 ++ z1.map sp ++ [x] ++ z5)) (hn : n ≤ 100000000)
    (h0 : z0.length = n0) {n1 : Nat} (h1 : z1.length = n1) (hx : ¬ IsS x) (h44 : x ≠ 44) :
    Calls Try.prog 13 #[.slice ao n cap, .int .i64 n0] w fun e w' => e = .returned (.int .i64 (n0 + n1 : Nat)) ∧ w = w' := by
  have hl := hown.len
  obtain ⟨g, cap', hv, hcell⟩ := hown.cells (by rw [← hl]; simp; omega)
  injection hv with e1 _ e2
  subst e1 e2 h0 h1
  have hat : (z0 ++ z1.map sp ++ [x] ++ z5).getD (z0.length + z1.length) 0 = x := by simp
  have hsp : ∀ j, z0.length ≤ j → j < z0.length + z1.length → IsS ((z0 ++ z1.map sp ++ [x] ++ z5).getD j 0) := by
    intro j a b
    have := mid_space z0 z1 ([x] ++ z5) j a b
    simpa using this
  have hnn : z0.length + z1.length < n := by rw [← hl]; simp
  refine zznext_of _ _ _ _ _ _ (next_none g n cap z0.length (z0.length + z1.length) _ w hn hcell (by omega) hnn hsp ?_ ?_)
  · rw [hat]; exact hx
  · rw [hat]; exact h44

/-- .. with a comma. -/
theorem own_comma {w : World} {B n cap n0 : Nat} {ao : Option Addr} {z0 z1 z3 z5 : List Int} {x : Int} (hown : Own w B (.slice ao n cap) n (z0 ++ z1.map sp ++ [44] ++ z3.map sp ++ [x] ++ z5)) (hn : n ≤ 100000000)
    (h0 : z0.length = n0) {n1 n3 : Nat} (h1 : z1.length = n1) (h3 : z3.length = n3) (hx : ¬ IsS x) :
    Calls Try.prog 13 #[.slice ao n cap, .int .i64 n0] w fun e w' => e = .returned (.int .i64 (n0 + n1 + 1 + n3 : Nat)) ∧ w = w' := by
  have hl := hown.len
  obtain ⟨g, cap', hv, hcell⟩ := hown.cells (by rw [← hl]; simp; omega)
  injection hv with e1 _ e2
  subst e1 e2 h0 h1 h3
  have hat : (z0 ++ z1.map sp ++ [44] ++ z3.map sp ++ [x] ++ z5).getD (z0.length + z1.length) 0 = 44 := by simp
  have hat2 : (z0 ++ z1.map sp ++ [44] ++ z3.map sp ++ [x] ++ z5).getD (z0.length + z1.length + 1 + z3.length) 0 = x := by
    have := mid_at (z0 ++ z1.map sp ++ [44] ++ z3.map sp) x z5
    have e : (z0 ++ z1.map sp ++ [44] ++ z3.map sp).length = z0.length + z1.length + 1 + z3.length := by simp; omega
    rw [e] at this
    simpa using this
  have hsp : ∀ j, z0.length ≤ j → j < z0.length + z1.length → IsS ((z0 ++ z1.map sp ++ [44] ++ z3.map sp ++ [x] ++ z5).getD j 0) := by
    intro j a b
    have := mid_space z0 z1 ([44] ++ z3.map sp ++ [x] ++ z5) j a b
    simpa using this
  have hsp2 : ∀ j, z0.length + z1.length < j → j < z0.length + z1.length + 1 + z3.length → IsS ((z0 ++ z1.map sp ++ [44] ++ z3.map sp ++ [x] ++ z5).getD j 0) := by
    intro j a b
    have := mid_space (z0 ++ z1.map sp ++ [44]) z3 ([x] ++ z5) j (by simp; omega) (by simp; omega)
    simpa using this
  have hnn : z0.length + z1.length + 1 + z3.length < n := by rw [← hl]; simp; omega
  refine zznext_of _ _ _ _ _ _ (next_comma g n cap z0.length (z0.length + z1.length) (z0.length + z1.length + 1 + z3.length) _ w hn hcell (by omega) (by omega) hnn hsp hat hsp2 ?_)
  rw [hat2]; exact hx
end Go.Proofs.Qxb6001598a.base
