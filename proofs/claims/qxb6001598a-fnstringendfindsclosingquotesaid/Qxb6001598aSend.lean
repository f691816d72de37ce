import Derived.Test.Qxb6001598aEnc
namespace Go.Proofs.Qxb6001598a.base
open Go.RowKit

/-- How far the first k chunks reach. -/
def reach (cs : List (List Int)) (k : Nat) : Nat := (cs.take k).flatten.length

theorem reach_zero (cs : List (List Int)) : reach cs 0 = 0 := by simp [reach]
theorem reach_all (cs : List (List Int)) : reach cs cs.length = cs.flatten.length := by simp [reach]
theorem reach_succ (cs : List (List Int)) (k : Nat) (h : k < cs.length) : reach cs (k + 1) = reach cs k + cs[k].length := by
  unfold reach
  rw [List.take_succ_eq_append_getElem h, List.flatten_append, List.length_append]
  simp

theorem split_at (cs : List (List Int)) (k : Nat) (h : k < cs.length) : cs.flatten = (cs.take k).flatten ++ (cs[k] ++ (cs.drop (k + 1)).flatten) := by
  have e : cs = cs.take k ++ cs[k] :: cs.drop (k + 1) := by
    rw [List.getElem_cons_drop h, List.take_append_drop]
  have e2 : cs.flatten = (cs.take k ++ cs[k] :: cs.drop (k + 1)).flatten := congrArg List.flatten e
  rw [e2, List.flatten_append, List.flatten_cons]

theorem getD_mid (a : List Int) (c : Int) (b : List Int) : (a ++ c :: b).getD a.length 0 = c := by simp [List.getD]

/-- The byte at the head of chunk k. -/
theorem at_chunk (pre tail : List Int) (cs : List (List Int)) (k : Nat) (h : k < cs.length) (c : Int) (rest : List Int) (hc : cs[k] = c :: rest) :
    (pre ++ 34 :: (cs.flatten ++ 34 :: tail)).getD (pre.length + 1 + reach cs k) 0 = c := by
  rw [split_at cs k h, hc]
  have e : pre ++ 34 :: ((cs.take k).flatten ++ ((c :: rest) ++ (cs.drop (k + 1)).flatten) ++ 34 :: tail) = (pre ++ 34 :: (cs.take k).flatten) ++ c :: (rest ++ (cs.drop (k + 1)).flatten ++ 34 :: tail) := by simp
  rw [e]
  have := getD_mid (pre ++ 34 :: (cs.take k).flatten) c (rest ++ (cs.drop (k + 1)).flatten ++ 34 :: tail)
  rw [show (pre ++ 34 :: (cs.take k).flatten).length = pre.length + 1 + reach cs k from by simp [reach]; omega] at this
  exact this

theorem at_end (pre tail : List Int) (cs : List (List Int)) : (pre ++ 34 :: (cs.flatten ++ 34 :: tail)).getD (pre.length + 1 + reach cs cs.length) 0 = 34 := by
  have e : pre ++ 34 :: (cs.flatten ++ 34 :: tail) = (pre ++ 34 :: cs.flatten) ++ 34 :: tail := by simp
  rw [e]
  have := getD_mid (pre ++ 34 :: cs.flatten) 34 tail
  rw [show (pre ++ 34 :: cs.flatten).length = pre.length + 1 + reach cs cs.length from by rw [reach_all]; simp; omega] at this
  exact this

theorem reach_le (cs : List (List Int)) (k : Nat) : reach cs k ≤ cs.flatten.length := by
  have : cs.flatten = (cs.take k).flatten ++ (cs.drop k).flatten := by rw [← List.flatten_append, List.take_append_drop]
  rw [this]
  simp [reach]

set_option maxHeartbeats 800000 in
theorem send_any (g n cap E : Nat) (pre tail : List Int) (cs : List (List Int)) (w : World) (hn : (pre ++ 34 :: (cs.flatten ++ 34 :: tail)).length = n) (hn1 : n ≤ 100000000)
    (hcell : ∀ j, j < n → w.cell? ⟨g, j, none⟩ = some (.int .u8 ((pre ++ 34 :: (cs.flatten ++ 34 :: tail)).getD j 0))) (hch : ∀ ch ∈ cs, Chunk ch) (hE : E = pre.length + 1 + cs.flatten.length + 1) :
    Calls Try.prog 21 #[.slice (some ⟨g, 0, none⟩) n cap, .int .i64 pre.length] w fun e w' => e = .returned (.int .i64 (E : Int)) ∧ w = w' := by
  have hlen : pre.length + 1 + cs.flatten.length + 1 + tail.length = n := by rw [← hn]; simp; omega
  have HC : Hid (∀ j, j < n → w.cell? ⟨g, j, none⟩ = some (.int .u8 ((pre ++ 34 :: (cs.flatten ++ 34 :: tail)).getD j 0))) := hcell
  have HL : Hid (pre.length + 1 + cs.flatten.length + 1 + tail.length = n) := hlen
  have HCH : Hid (∀ ch ∈ cs, Chunk ch) := hch
  have hpre : pre.length ≤ 100000000 := by omega
  have HE : Hid (E = pre.length + 1 + cs.flatten.length + 1) := hE
  clear hcell hn hlen hch hE
  go_enter Try.func21, Try.ntmps21
  go_wp2
  go_loop [1] (fun i => ∃ k p : Nat, k ≤ cs.length ∧ Hid (p = pre.length + 1 + reach cs k) ∧ i = .int .i64 p) (fun i => n - (intOf i).toNat)
  case atStart => exact ⟨0, pre.length + 1, Nat.zero_le _, by simp [Hid, reach_zero], rfl⟩
  case round =>
    obtain ⟨k, p, hk, Hp, rfl⟩ := hrel
    have hp : p < n := by rw [Hp.out]; have := HL.out; have := reach_le cs k; omega
    have hc := HC.out p hp
    by_cases hlt : k < cs.length
    · have hR := reach_succ cs k hlt
      rcases HCH.out cs[k] (List.getElem_mem hlt) with ⟨c, e, h34, h92⟩ | ⟨c, e⟩
      · have hb : w.cell? ⟨g, p, none⟩ = some (.int .u8 c) := by rw [hc, Hp.out, at_chunk pre tail cs k hlt c [] e]
        have hp' : Hid (p + 1 = pre.length + 1 + reach cs (k + 1)) := by simp only [Hid]; rw [hR, e, Hp.out]; simp; omega
        have n34 : (c != 34) = true := by simpa using h34
        have n92 : (c == 92) = false := by simpa using h92
        clear hc hR h34 h92 e
        go_wp2
        go_round
        case rel => exact ⟨k + 1, p + 1, by omega, hp', by go_num⟩
        case measure => simp [intOf]; omega
      · have hb : w.cell? ⟨g, p, none⟩ = some (.int .u8 92) := by rw [hc, Hp.out, at_chunk pre tail cs k hlt 92 [c] e]
        have hp' : Hid (p + 2 = pre.length + 1 + reach cs (k + 1)) := by simp only [Hid]; rw [hR, e, Hp.out]; simp; omega
        clear hc hR e
        go_wp2
        go_round
        case rel => exact ⟨k + 1, p + 2, by omega, hp', by go_num⟩
        case measure => simp [intOf]; omega
    · obtain rfl : k = cs.length := by omega
      have hb : w.cell? ⟨g, p, none⟩ = some (.int .u8 34) := by rw [hc, Hp.out, at_end pre tail cs]
      have hp' : Hid (E = p + 1) := by simp only [Hid]; rw [HE.out, Hp.out, reach_all]
      clear hc
      go_wp2
      go_ret
      refine ⟨?_, rfl⟩
      rw [hp'.out]
      rfl

theorem zzsend_any (g n cap E : Nat) (pre tail : List Int) (cs : List (List Int)) (w : World) (hn : (pre ++ 34 :: (cs.flatten ++ 34 :: tail)).length = n) (hn1 : n ≤ 100000000)
    (hcell : ∀ j, j < n → w.cell? ⟨g, j, none⟩ = some (.int .u8 ((pre ++ 34 :: (cs.flatten ++ 34 :: tail)).getD j 0))) (hch : ∀ ch ∈ cs, Chunk ch) (hE : E = pre.length + 1 + cs.flatten.length + 1) :
    Calls Try.prog 9 #[.slice (some ⟨g, 0, none⟩) n cap, .int .i64 pre.length] w fun e w' => e = .returned (.int .i64 (E : Int)) ∧ w = w' := by
  have hs := send_any g n cap E pre tail cs w hn hn1 hcell hch hE
  clear hn hn1 hcell hch hE
  go_enter Try.func9, Try.ntmps9
  go_wp2_with (go_at_call 21; refine hs.mono ?_; rintro e w' ⟨rfl, rfl⟩)
  go_ret
  exact ⟨rfl, rfl⟩
end Go.Proofs.Qxb6001598a.base
