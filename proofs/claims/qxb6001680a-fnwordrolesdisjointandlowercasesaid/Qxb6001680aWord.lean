import Derived.Test.Qxb6001680aRows
import Derived.WalkKit
import Derived.Below
import Derived.WalkLawsBesides
import Derived.WalkSpells
namespace Go.Proofs.Qxb6001680a.word
open Go.RowKit

/-- The role of a word: 1 a statement's keyword, 2 a value, 3 an operator, 0 none. -/
def role (s : ByteArray) : Int :=
  if s.toList == [116, 121, 112, 101] then 1
  else if s.toList == [101, 110, 117, 109] then 1
  else if s.toList == [101, 120, 112, 101, 99, 116] then 1
  else if s.toList == [105, 110, 99, 108, 117, 100, 101] then 1
  else if s.toList == [116, 114, 117, 101] then 2
  else if s.toList == [102, 97, 108, 115, 101] then 2
  else if s.toList == [110, 117, 108, 108] then 2
  else if s.toList == [97, 110, 100] then 3
  else if s.toList == [111, 114] then 3
  else if s.toList == [110, 111, 116] then 3
  else 0

theorem of_toList {s : ByteArray} {a : Array UInt8} (h : (s.toList == a.toList) = true) : s = ⟨a⟩ := by
  have h' : s.toList = a.toList := by simpa using h
  have e : s.data = a := by
    apply Array.ext'
    rw [← h', ByteArray.toList_eq]
  cases s
  simp at e
  rw [e]

set_option maxHeartbeats 800000 in
theorem role_any (s : ByteArray) (w : World) : Calls Try.prog 22 #[.string s] w fun e w' => e = .returned (.int .i64 (role s)) ∧ w = w' := by
  cases h0 : s.toList == [116, 121, 112, 101]
  case true =>
    have hr : Hid (role s = 1) := by simp [Hid, role, h0]
    obtain rfl : s = ⟨#[116, 121, 112, 101]⟩ := of_toList (a := #[116, 121, 112, 101]) h0
    clear h0
    go_enter Try.func22, Try.ntmps22
    go_wp2
    go_ret
    exact ⟨by rw [hr.out]; rfl, rfl⟩
  cases h1 : s.toList == [101, 110, 117, 109]
  case true =>
    have hr : Hid (role s = 1) := by simp [Hid, role, h0, h1]
    obtain rfl : s = ⟨#[101, 110, 117, 109]⟩ := of_toList (a := #[101, 110, 117, 109]) h1
    clear h0 h1
    go_enter Try.func22, Try.ntmps22
    go_wp2
    go_ret
    exact ⟨by rw [hr.out]; rfl, rfl⟩
  cases h2 : s.toList == [101, 120, 112, 101, 99, 116]
  case true =>
    have hr : Hid (role s = 1) := by simp [Hid, role, h0, h1, h2]
    obtain rfl : s = ⟨#[101, 120, 112, 101, 99, 116]⟩ := of_toList (a := #[101, 120, 112, 101, 99, 116]) h2
    clear h0 h1 h2
    go_enter Try.func22, Try.ntmps22
    go_wp2
    go_ret
    exact ⟨by rw [hr.out]; rfl, rfl⟩
  cases h3 : s.toList == [105, 110, 99, 108, 117, 100, 101]
  case true =>
    have hr : Hid (role s = 1) := by simp [Hid, role, h0, h1, h2, h3]
    obtain rfl : s = ⟨#[105, 110, 99, 108, 117, 100, 101]⟩ := of_toList (a := #[105, 110, 99, 108, 117, 100, 101]) h3
    clear h0 h1 h2 h3
    go_enter Try.func22, Try.ntmps22
    go_wp2
    go_ret
    exact ⟨by rw [hr.out]; rfl, rfl⟩
  cases h4 : s.toList == [116, 114, 117, 101]
  case true =>
    have hr : Hid (role s = 2) := by simp [Hid, role, h0, h1, h2, h3, h4]
    obtain rfl : s = ⟨#[116, 114, 117, 101]⟩ := of_toList (a := #[116, 114, 117, 101]) h4
    clear h0 h1 h2 h3 h4
    go_enter Try.func22, Try.ntmps22
    go_wp2
    go_ret
    exact ⟨by rw [hr.out]; rfl, rfl⟩
  cases h5 : s.toList == [102, 97, 108, 115, 101]
  case true =>
    have hr : Hid (role s = 2) := by simp [Hid, role, h0, h1, h2, h3, h4, h5]
    obtain rfl : s = ⟨#[102, 97, 108, 115, 101]⟩ := of_toList (a := #[102, 97, 108, 115, 101]) h5
    clear h0 h1 h2 h3 h4 h5
    go_enter Try.func22, Try.ntmps22
    go_wp2
    go_ret
    exact ⟨by rw [hr.out]; rfl, rfl⟩
  cases h6 : s.toList == [110, 117, 108, 108]
  case true =>
    have hr : Hid (role s = 2) := by simp [Hid, role, h0, h1, h2, h3, h4, h5, h6]
    obtain rfl : s = ⟨#[110, 117, 108, 108]⟩ := of_toList (a := #[110, 117, 108, 108]) h6
    clear h0 h1 h2 h3 h4 h5 h6
    go_enter Try.func22, Try.ntmps22
    go_wp2
    go_ret
    exact ⟨by rw [hr.out]; rfl, rfl⟩
  cases h7 : s.toList == [97, 110, 100]
  case true =>
    have hr : Hid (role s = 3) := by simp [Hid, role, h0, h1, h2, h3, h4, h5, h6, h7]
    obtain rfl : s = ⟨#[97, 110, 100]⟩ := of_toList (a := #[97, 110, 100]) h7
    clear h0 h1 h2 h3 h4 h5 h6 h7
    go_enter Try.func22, Try.ntmps22
    go_wp2
    go_ret
    exact ⟨by rw [hr.out]; rfl, rfl⟩
  cases h8 : s.toList == [111, 114]
  case true =>
    have hr : Hid (role s = 3) := by simp [Hid, role, h0, h1, h2, h3, h4, h5, h6, h7, h8]
    obtain rfl : s = ⟨#[111, 114]⟩ := of_toList (a := #[111, 114]) h8
    clear h0 h1 h2 h3 h4 h5 h6 h7 h8
    go_enter Try.func22, Try.ntmps22
    go_wp2
    go_ret
    exact ⟨by rw [hr.out]; rfl, rfl⟩
  cases h9 : s.toList == [110, 111, 116]
  case true =>
    have hr : Hid (role s = 3) := by simp [Hid, role, h0, h1, h2, h3, h4, h5, h6, h7, h8, h9]
    obtain rfl : s = ⟨#[110, 111, 116]⟩ := of_toList (a := #[110, 111, 116]) h9
    clear h0 h1 h2 h3 h4 h5 h6 h7 h8 h9
    go_enter Try.func22, Try.ntmps22
    go_wp2
    go_ret
    exact ⟨by rw [hr.out]; rfl, rfl⟩
  have hr : Hid (role s = 0) := by simp [Hid, role, h0, h1, h2, h3, h4, h5, h6, h7, h8, h9]
  go_enter Try.func22, Try.ntmps22
  go_wp2
  go_ret
  exact ⟨by rw [hr.out]; rfl, rfl⟩

/-- Two to seven lower-case letters. -/
def Low (s : ByteArray) : Prop := 2 ≤ s.size ∧ s.size ≤ 7 ∧ ∀ (i : Nat) (h : i < s.size), 97 ≤ (s[i].toNat : Int) ∧ (s[i].toNat : Int) ≤ 122

/-- A word without a role, or one with a role, in lower case. -/
theorem role_low (s : ByteArray) : role s = 0 ∨ (0 < role s ∧ Low s) := by
  cases h0 : s.toList == [116, 121, 112, 101]
  case true =>
    have hr : role s = 1 := by simp [role, h0]
    obtain rfl : s = ⟨#[116, 121, 112, 101]⟩ := of_toList (a := #[116, 121, 112, 101]) h0
    exact Or.inr ⟨by rw [hr]; decide, by decide, by decide, by decide⟩
  cases h1 : s.toList == [101, 110, 117, 109]
  case true =>
    have hr : role s = 1 := by simp [role, h0, h1]
    obtain rfl : s = ⟨#[101, 110, 117, 109]⟩ := of_toList (a := #[101, 110, 117, 109]) h1
    exact Or.inr ⟨by rw [hr]; decide, by decide, by decide, by decide⟩
  cases h2 : s.toList == [101, 120, 112, 101, 99, 116]
  case true =>
    have hr : role s = 1 := by simp [role, h0, h1, h2]
    obtain rfl : s = ⟨#[101, 120, 112, 101, 99, 116]⟩ := of_toList (a := #[101, 120, 112, 101, 99, 116]) h2
    exact Or.inr ⟨by rw [hr]; decide, by decide, by decide, by decide⟩
  cases h3 : s.toList == [105, 110, 99, 108, 117, 100, 101]
  case true =>
    have hr : role s = 1 := by simp [role, h0, h1, h2, h3]
    obtain rfl : s = ⟨#[105, 110, 99, 108, 117, 100, 101]⟩ := of_toList (a := #[105, 110, 99, 108, 117, 100, 101]) h3
    exact Or.inr ⟨by rw [hr]; decide, by decide, by decide, by decide⟩
  cases h4 : s.toList == [116, 114, 117, 101]
  case true =>
    have hr : role s = 2 := by simp [role, h0, h1, h2, h3, h4]
    obtain rfl : s = ⟨#[116, 114, 117, 101]⟩ := of_toList (a := #[116, 114, 117, 101]) h4
    exact Or.inr ⟨by rw [hr]; decide, by decide, by decide, by decide⟩
  cases h5 : s.toList == [102, 97, 108, 115, 101]
  case true =>
    have hr : role s = 2 := by simp [role, h0, h1, h2, h3, h4, h5]
    obtain rfl : s = ⟨#[102, 97, 108, 115, 101]⟩ := of_toList (a := #[102, 97, 108, 115, 101]) h5
    exact Or.inr ⟨by rw [hr]; decide, by decide, by decide, by decide⟩
  cases h6 : s.toList == [110, 117, 108, 108]
  case true =>
    have hr : role s = 2 := by simp [role, h0, h1, h2, h3, h4, h5, h6]
    obtain rfl : s = ⟨#[110, 117, 108, 108]⟩ := of_toList (a := #[110, 117, 108, 108]) h6
    exact Or.inr ⟨by rw [hr]; decide, by decide, by decide, by decide⟩
  cases h7 : s.toList == [97, 110, 100]
  case true =>
    have hr : role s = 3 := by simp [role, h0, h1, h2, h3, h4, h5, h6, h7]
    obtain rfl : s = ⟨#[97, 110, 100]⟩ := of_toList (a := #[97, 110, 100]) h7
    exact Or.inr ⟨by rw [hr]; decide, by decide, by decide, by decide⟩
  cases h8 : s.toList == [111, 114]
  case true =>
    have hr : role s = 3 := by simp [role, h0, h1, h2, h3, h4, h5, h6, h7, h8]
    obtain rfl : s = ⟨#[111, 114]⟩ := of_toList (a := #[111, 114]) h8
    exact Or.inr ⟨by rw [hr]; decide, by decide, by decide, by decide⟩
  cases h9 : s.toList == [110, 111, 116]
  case true =>
    have hr : role s = 3 := by simp [role, h0, h1, h2, h3, h4, h5, h6, h7, h8, h9]
    obtain rfl : s = ⟨#[110, 111, 116]⟩ := of_toList (a := #[110, 111, 116]) h9
    exact Or.inr ⟨by rw [hr]; decide, by decide, by decide, by decide⟩
  exact Or.inl (by simp [role, h0, h1, h2, h3, h4, h5, h6, h7, h8, h9])

theorem lower_any (s : ByteArray) (w : World) (h : Low s) : Calls Try.prog 23 #[.string s] w fun e w' => e = .returned (.bool true) ∧ w = w' := by
  obtain ⟨h2, h7, hall⟩ := h
  have HA : Hid (∀ (i : Nat) (h : i < s.size), 97 ≤ (s[i].toNat : Int) ∧ (s[i].toNat : Int) ≤ 122) := hall
  clear hall
  have d1 : decide ((s.size : Int) < 2) = false := by simp; omega
  have d2 : decide ((7 : Int) < (s.size : Int)) = false := by simp; omega
  go_enter Try.func23, Try.ntmps23
  go_wp2
  go_loop [3] (fun i => ∃ k : Nat, k ≤ s.size ∧ i = .int .i64 k) (fun i => s.size - (intOf i).toNat)
  case atStart => exact ⟨0, Nat.zero_le _, rfl⟩
  case round =>
    obtain ⟨k, hk, rfl⟩ := hrel
    by_cases hlt : k < s.size
    · obtain ⟨a1, a2⟩ := HA.out k hlt
      have e1 : decide ((s[k].toNat : Int) < 97) = false := by simp; omega
      have e2 : decide ((122 : Int) < (s[k].toNat : Int)) = false := by simp; omega
      go_wp2
      go_round
      case rel => exact ⟨k + 1, by omega, by go_num⟩
      case measure => simp [intOf]; omega
    · go_wp2
      go_ret
      exact ⟨rfl, rfl⟩

theorem zb_yes (s : ByteArray) (w : World) (h : s.size ≤ 1048576) : Calls Try.prog 21 #[.string s] w fun e w' => e = .returned (.bool true) ∧ w = w' := by
  have d1 : decide ((1048576 : Int) < (s.size : Int)) = false := by simp; omega
  go_enter Try.func21, Try.ntmps21
  go_wp2
  go_ret
  exact ⟨rfl, rfl⟩
theorem zb_no (s : ByteArray) (w : World) (h : 1048576 < s.size) : Calls Try.prog 21 #[.string s] w fun e w' => e = .returned (.bool false) ∧ w = w' := by
  have d1 : (1048576 : Int) < (s.size : Int) := by omega
  go_enter Try.func21, Try.ntmps21
  go_wp2
  go_ret
  exact ⟨rfl, rfl⟩

theorem law_huge (s : ByteArray) (w : World) (h : 1048576 < s.size) : Calls Try.prog 6 #[.string s] w fun e w' => e = .returned (.bool true) ∧ w = w' := by
  go_enter Try.func6, Try.ntmps6
  go_wp2_with (go_at_call 21; refine (zb_no s _ h).mono ?_; rintro e w' ⟨rfl, rfl⟩)
  go_ret
  exact ⟨rfl, rfl⟩

theorem role_k0 : role ⟨#[116, 121, 112, 101]⟩ = 1 := by simp [role]
theorem role_k1 : role ⟨#[101, 110, 117, 109]⟩ = 1 := by simp [role]
theorem role_k2 : role ⟨#[101, 120, 112, 101, 99, 116]⟩ = 1 := by simp [role]
theorem role_k3 : role ⟨#[105, 110, 99, 108, 117, 100, 101]⟩ = 1 := by simp [role]
theorem role_k4 : role ⟨#[116, 114, 117, 101]⟩ = 2 := by simp [role]
theorem role_k5 : role ⟨#[102, 97, 108, 115, 101]⟩ = 2 := by simp [role]
theorem role_k6 : role ⟨#[110, 117, 108, 108]⟩ = 2 := by simp [role]
theorem role_k7 : role ⟨#[97, 110, 100]⟩ = 3 := by simp [role]
theorem role_k8 : role ⟨#[111, 114]⟩ = 3 := by simp [role]
theorem role_k9 : role ⟨#[110, 111, 116]⟩ = 3 := by simp [role]

set_option maxHeartbeats 1600000 in
theorem law_in (s : ByteArray) (w : World) (h : s.size ≤ 1048576) : Calls Try.prog 6 #[.string s] w fun e w' => e = .returned (.bool true) ∧ w = w' := by
  have d1 : decide ((1048576 : Int) < (s.size : Int)) = false := by simp; omega
  have k0 := role_k0
  have k1 := role_k1
  have k2 := role_k2
  have k3 := role_k3
  have k4 := role_k4
  have k5 := role_k5
  have k6 := role_k6
  have k7 := role_k7
  have k8 := role_k8
  have k9 := role_k9
  rcases role_low s with h0 | ⟨h1, hl⟩
  · go_enter Try.func6, Try.ntmps6
    go_wp2_with (first
      | (go_at_call 21; refine (zb_yes s _ h).mono ?_; rintro e w' ⟨rfl, rfl⟩)
      | (go_at_call 22; refine (role_any _ _).mono ?_; rintro e w' ⟨rfl, rfl⟩))
    go_ret
    exact ⟨rfl, rfl⟩
  · generalize hr : role s = r at *
    have d2 : decide (r < 0) = false := by simp; omega
    go_enter Try.func6, Try.ntmps6
    go_wp2_with (first
      | (go_at_call 21; refine (zb_yes s _ h).mono ?_; rintro e w' ⟨rfl, rfl⟩)
      | (go_at_call 23; refine (lower_any s _ hl).mono ?_; rintro e w' ⟨rfl, rfl⟩)
      | (go_at_call 22; refine (role_any _ _).mono ?_; rintro e w' ⟨rfl, rfl⟩))
    go_ret
    exact ⟨rfl, rfl⟩

theorem law_any (s : ByteArray) (w : World) : Calls Try.prog 6 #[.string s] w fun e w' => e = .returned (.bool true) ∧ w = w' := by
  by_cases h : s.size ≤ 1048576
  · exact law_in s w h
  · exact law_huge s w (by omega)
end Go.Proofs.Qxb6001680a.word
