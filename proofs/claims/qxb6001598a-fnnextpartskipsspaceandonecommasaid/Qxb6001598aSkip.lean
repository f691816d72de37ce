import Derived.Test.Qxb6001598aEnc
namespace Go.Proofs.Qxb6001598a.base
open Go.RowKit

/-- JSON white space. -/
def IsS (c : Int) : Prop := c = 32 ∨ c = 9 ∨ c = 10 ∨ c = 13

/-- The byte that zzSjSpace makes of c. -/
def sp (c : Int) : Int := if c % 4 = 0 then 32 else if c % 4 = 1 then 9 else if c % 4 = 2 then 10 else 13
theorem sp_space (c : Int) : IsS (sp c) := by
  unfold sp
  by_cases h0 : c % 4 = 0
  · rw [if_pos h0]; exact Or.inl rfl
  rw [if_neg h0]
  by_cases h1 : c % 4 = 1
  · rw [if_pos h1]; exact Or.inr (Or.inl rfl)
  rw [if_neg h1]
  by_cases h2 : c % 4 = 2
  · rw [if_pos h2]; exact Or.inr (Or.inr (Or.inl rfl))
  rw [if_neg h2]
  exact Or.inr (Or.inr (Or.inr rfl))

theorem space_any (c : Int) (w : World) (h0 : 0 ≤ c) (h1 : c ≤ 255) : Calls Try.prog 22 #[.int .u8 c] w fun e w' => e = .returned (.int .u8 (sp c)) ∧ w = w' := by
  rcases (show c % 4 = 0 ∨ c % 4 = 1 ∨ c % 4 = 2 ∨ c % 4 = 3 by omega) with h | h | h | h
  · have e : Hid (sp c = 32) := by simp [Hid, sp, h]
    go_enter Try.func22, Try.ntmps22
    go_wp2
    go_ret
    exact ⟨by rw [e.out]; rfl, rfl⟩
  · have e : Hid (sp c = 9) := by simp [Hid, sp, h]
    go_enter Try.func22, Try.ntmps22
    go_wp2
    go_ret
    exact ⟨by rw [e.out]; rfl, rfl⟩
  · have e : Hid (sp c = 10) := by simp [Hid, sp, h]
    go_enter Try.func22, Try.ntmps22
    go_wp2
    go_ret
    exact ⟨by rw [e.out]; rfl, rfl⟩
  · have e : Hid (sp c = 13) := by simp [Hid, sp, h]
    go_enter Try.func22, Try.ntmps22
    go_wp2
    go_ret
    exact ⟨by rw [e.out]; rfl, rfl⟩

theorem isspace_yes (c : Int) (w : World) (h : IsS c) : Calls Try.prog 11 #[.int .u8 c] w fun e w' => e = .returned (.bool true) ∧ w = w' := by
  rcases h with rfl | rfl | rfl | rfl
  all_goals
    go_enter Try.func11, Try.ntmps11
    go_wp2
    go_ret
    exact ⟨rfl, rfl⟩
theorem isspace_no (c : Int) (w : World) (h : ¬ IsS c) : Calls Try.prog 11 #[.int .u8 c] w fun e w' => e = .returned (.bool false) ∧ w = w' := by
  have h1 : (c == 32) = false := by simp; intro e; exact h (Or.inl e)
  have h2 : (c == 9) = false := by simp; intro e; exact h (Or.inr (Or.inl e))
  have h3 : (c == 10) = false := by simp; intro e; exact h (Or.inr (Or.inr (Or.inl e)))
  have h4 : (c == 13) = false := by simp; intro e; exact h (Or.inr (Or.inr (Or.inr e)))
  clear h
  go_enter Try.func11, Try.ntmps11
  go_wp2
  go_ret
  exact ⟨rfl, rfl⟩

/-- skipSpace from p: white space up to q, none at q. -/
theorem skip_any (g n cap p q : Nat) (L : List Int) (w : World) (hn : n ≤ 100000000) (hcell : ∀ j, j < n → w.cell? ⟨g, j, none⟩ = some (.int .u8 (L.getD j 0))) (hpq : p ≤ q) (hq : q < n)
    (hsp : ∀ j, p ≤ j → j < q → IsS (L.getD j 0)) (hns : ¬ IsS (L.getD q 0)) :
    Calls Try.prog 28 #[.slice (some ⟨g, 0, none⟩) n cap, .int .i64 p] w fun e w' => e = .returned (.int .i64 q) ∧ w = w' := by
  have HC : Hid (∀ j, j < n → w.cell? ⟨g, j, none⟩ = some (.int .u8 (L.getD j 0))) := hcell
  have HS : Hid (∀ j, p ≤ j → j < q → IsS (L.getD j 0)) := hsp
  have HN : Hid (¬ IsS (L.getD q 0)) := hns
  clear hcell hsp hns
  go_enter Try.func28, Try.ntmps28
  go_wp2
  go_loop [1] (fun i => ∃ k : Nat, p ≤ k ∧ k ≤ q ∧ i = .int .i64 k) (fun i => q - (intOf i).toNat)
  case atStart => exact ⟨p, Nat.le_refl _, hpq, rfl⟩
  case round =>
    obtain ⟨k, hk0, hk, rfl⟩ := hrel
    have hkn : k < n := by omega
    have hc := HC.out k hkn
    by_cases hlt : k < q
    · rcases HS.out k hk0 hlt with e | e | e | e
      all_goals
        rw [e] at hc
        clear e
        go_wp2
        go_round
        case rel => exact ⟨k + 1, by omega, by omega, by go_num⟩
        case measure => simp [intOf]; omega
    · obtain rfl : k = q := by omega
      have h := HN.out
      obtain ⟨c, hcc⟩ : ∃ c, L.getD k 0 = c := ⟨_, rfl⟩
      rw [hcc] at hc h
      clear hcc
      have h1 : (c == 32) = false := by simp; intro e; exact h (Or.inl e)
      have h2 : (c == 9) = false := by simp; intro e; exact h (Or.inr (Or.inl e))
      have h3 : (c == 10) = false := by simp; intro e; exact h (Or.inr (Or.inr (Or.inl e)))
      have h4 : (c == 13) = false := by simp; intro e; exact h (Or.inr (Or.inr (Or.inr e)))
      clear h
      go_wp2
      go_ret
      exact ⟨rfl, rfl⟩

/-- nextPart: no comma behind the white space. -/
theorem next_none (g n cap p q : Nat) (L : List Int) (w : World) (hn : n ≤ 100000000) (hcell : ∀ j, j < n → w.cell? ⟨g, j, none⟩ = some (.int .u8 (L.getD j 0))) (hpq : p ≤ q) (hq : q < n)
    (hsp : ∀ j, p ≤ j → j < q → IsS (L.getD j 0)) (hns : ¬ IsS (L.getD q 0)) (hx : L.getD q 0 ≠ 44) :
    Calls Try.prog 23 #[.slice (some ⟨g, 0, none⟩) n cap, .int .i64 p] w fun e w' => e = .returned (.int .i64 q) ∧ w = w' := by
  have hs := skip_any g n cap p q L w hn hcell hpq hq hsp hns
  have hc := hcell q hq
  have h44 : (L.getD q 0 == 44) = false := by simpa using hx
  generalize L.getD q 0 = c at *
  clear hcell hsp hns hx
  go_enter Try.func23, Try.ntmps23
  go_wp2_with (go_at_call 28; refine hs.mono ?_; rintro e w' ⟨rfl, rfl⟩)
  go_ret
  exact ⟨rfl, rfl⟩

/-- nextPart: one comma behind the white space, and white space behind it. -/
theorem next_comma (g n cap p q r : Nat) (L : List Int) (w : World) (hn : n ≤ 100000000) (hcell : ∀ j, j < n → w.cell? ⟨g, j, none⟩ = some (.int .u8 (L.getD j 0))) (hpq : p ≤ q) (hqr : q < r) (hr : r < n)
    (hsp : ∀ j, p ≤ j → j < q → IsS (L.getD j 0)) (hx : L.getD q 0 = 44) (hsp2 : ∀ j, q < j → j < r → IsS (L.getD j 0)) (hns : ¬ IsS (L.getD r 0)) :
    Calls Try.prog 23 #[.slice (some ⟨g, 0, none⟩) n cap, .int .i64 p] w fun e w' => e = .returned (.int .i64 r) ∧ w = w' := by
  have hs := skip_any g n cap p q L w hn hcell hpq (by omega) hsp (by rw [hx]; simp [IsS])
  have hs2 := skip_any g n cap (q + 1) r L w hn hcell (by omega) hr (fun j h1 h2 => hsp2 j (by omega) h2) hns
  have hc := hcell q (by omega)
  rw [hx] at hc
  rw [show ((q + 1 : Nat) : Int) = (q : Int) + 1 from rfl] at hs2
  have hq9 : q < n := by omega
  clear hcell hsp hsp2 hns hx
  go_enter Try.func23, Try.ntmps23
  go_wp2_with fail
  refine hs.mono ?_
  rintro e w' ⟨rfl, rfl⟩
  go_wp2_with fail
  refine hs2.mono ?_
  rintro e w' ⟨rfl, rfl⟩
  go_wp2
  go_ret
  exact ⟨rfl, rfl⟩
end Go.Proofs.Qxb6001598a.base
