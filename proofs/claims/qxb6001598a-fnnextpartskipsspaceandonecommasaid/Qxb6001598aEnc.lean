import Derived.Test.Qxb6001598aBase
namespace Go.Proofs.Qxb6001598a.base
open Go.RowKit

/-- An argument slice of bytes: nothing in it, or its bytes lie at a plain address below B. -/
def ArgB (w : World) (B : Nat) (ao : Option Addr) (len cap : Nat) (z : List Int) : Prop :=
  z.length = len ∧ ((len = 0 ∧ (ao = none → cap = 0)) ∨ ∃ b off, ao = some ⟨b, off, none⟩ ∧ b < B ∧ ∀ j, j < len → w.cell? ⟨b, off + j, none⟩ = some (.int .u8 (z.getD j 0)) ∧ 0 ≤ z.getD j 0 ∧ z.getD j 0 ≤ 255)

theorem ArgB.below {w w' : World} {B : Nat} {ao : Option Addr} {len cap : Nat} {z : List Int} (h : ArgB w B ao len cap z) (hb : Below B w w') : ArgB w' B ao len cap z := by
  obtain ⟨h1, h2⟩ := h
  refine ⟨h1, ?_⟩
  rcases h2 with h2 | ⟨b, off, e, hB, hc⟩
  · exact Or.inl h2
  · exact Or.inr ⟨b, off, e, hB, fun j hj => ⟨(hb.cell (p := ⟨b, _, none⟩) hB).trans (hc j hj).1, (hc j hj).2⟩⟩

theorem ArgB.src {w : World} {B : Nat} {ao : Option Addr} {len cap : Nat} {z : List Int} (h : ArgB w B ao len cap z) : SrcB w ao len cap z := by
  obtain ⟨h1, h2⟩ := h
  refine ⟨h1, ?_, ?_⟩
  · rintro rfl
    rcases h2 with h2 | ⟨b, off, e, _⟩
    · exact ⟨h2.1, h2.2 rfl⟩
    · cases e
  · intro ad e j hj
    rcases h2 with h2 | ⟨b, off, e', hB, hc⟩
    · omega
    · rw [e'] at e
      cases e
      have := (hc j hj).1
      simpa [Addr.add_lit] using this

/-- A byte that stands as it is, or one behind a backslash. -/
def Chunk (ch : List Int) : Prop := (∃ c, ch = [c] ∧ c ≠ 34 ∧ c ≠ 92) ∨ ∃ c, ch = [92, c]

theorem rel_esc {w : World} {B N : Nat} {v : Value} {l : List Int} {cs : List (List Int)} {c : Int} (h : Own w B v N (l ++ 34 :: cs.flatten ++ [92] ++ [c])) : Own w B v N (l ++ 34 :: (cs ++ [[92, c]]).flatten) := by
  simpa using h
theorem rel_plain {w : World} {B N : Nat} {v : Value} {l : List Int} {cs : List (List Int)} {c : Int} (h : Own w B v N (l ++ 34 :: cs.flatten ++ [c])) : Own w B v N (l ++ 34 :: (cs ++ [[c]]).flatten) := by
  simpa using h
theorem chunks_esc {cs : List (List Int)} (h : ∀ ch ∈ cs, Chunk ch) (c : Int) : ∀ ch ∈ cs ++ [[92, c]], Chunk ch := by
  intro ch hc
  rcases List.mem_append.1 hc with h' | h'
  · exact h ch h'
  · simp at h'
    exact Or.inr ⟨c, h'⟩
theorem chunks_plain {cs : List (List Int)} (h : ∀ ch ∈ cs, Chunk ch) {c : Int} (h1 : c ≠ 34) (h2 : c ≠ 92) : ∀ ch ∈ cs ++ [[c]], Chunk ch := by
  intro ch hc
  rcases List.mem_append.1 hc with h' | h'
  · exact h ch h'
  · simp at h'
    exact Or.inl ⟨c, h', h1, h2⟩

set_option maxHeartbeats 1600000 in
theorem enc_any (B n cap0 len cap2 : Nat) (ao0 ao2 : Option Addr) (l z : List Int) (s : ByteArray) (w : World) (hown : Own w B (.slice ao0 n cap0) n l) (hs : s.size ≤ 1048576) (hn : n ≤ 1048576) (hB : B ≤ w.heap.size)
    (hlen : len ≤ 1048576) (hesc : ArgB w B ao2 len cap2 z) :
    Calls Try.prog 8 #[.slice ao0 n cap0, .string s, .slice ao2 len cap2] w fun e w' => ∃ (cs : List (List Int)) (ao : Option Addr) (N cap : Nat), e = .returned (.slice ao N cap) ∧
      Own w' B (.slice ao N cap) N (l ++ 34 :: (cs.flatten ++ [34])) ∧ (∀ ch ∈ cs, Chunk ch) ∧ N ≤ n + 2 + 2 * s.size ∧ Below B w w' := by
  go_enter Try.func8, Try.ntmps8
  go_wp2_with (at_builtin; refine appB rfl (.tmp 10) (.tmp 11) rfl B _ n l rfl (hown.alloc _) _ _ _ [34] rfl (SrcB.one _ _) (by omega) (by simp; omega) ?_; intro ao1 cap1 w1 hown1 hb1)
  go_loopw [0, 7] (fun out j wr => ∃ (k N cap : Nat) (ao : Option Addr) (cs : List (List Int)), k ≤ s.size ∧ j = .int .i64 k ∧ out = .slice ao N cap ∧ Own wr B (.slice ao N cap) N (l ++ 34 :: cs.flatten) ∧ (∀ ch ∈ cs, Chunk ch) ∧ N ≤ n + 1 + 2 * k ∧ Below B w wr) (fun _ j _ => s.size - (intOf j).toNat)
  case atStart => exact ⟨0, n + 1, cap1, ao1, [], Nat.zero_le _, rfl, rfl, by simpa using hown1, by simp, by omega, ((Below.refl _ _).alloc hB _).trans hb1⟩
  case round =>
    obtain ⟨k, N, cap, ao, cs, hk, rfl, rfl, hown, hcs, hN, hb⟩ := hrel
    have hz := hb.size
    by_cases hlt : k < s.size
    · have hmark : len = 0 ∨ ∃ b off, (0 : Int) < (len : Int) ∧ ao2 = some ⟨b, off, none⟩ ∧ wr.cell? ⟨b, off + k % len, none⟩ = some (.int .u8 (z.getD (k % len) 0)) := by
        rcases (hesc.below hb).2 with h | ⟨b, off, e, _, hcell⟩
        · exact Or.inl h.1
        · by_cases h0 : len = 0
          · exact Or.inl h0
          · exact Or.inr ⟨b, off, by omega, e, (hcell (k % len) (Nat.mod_lt _ (by omega))).1⟩
      by_cases h34 : (s[k].toNat : Int) = 34
      · rcases hmark with rfl | ⟨b, off, hpos, rfl, hg⟩
        · go_wp2_with (first
            | (at_builtin; refine appB rfl (.tmp 43) (.tmp 44) rfl B _ N _ rfl (hown.alloc _) _ _ _ [_] rfl (SrcB.one _ _) (by omega) (by simp; omega) ?_; intro ao3 cap3 w3 hown3 hb3; have hz3 := hb3.size; simp only [World.size_alloc] at hz3)
            | (at_builtin; refine appB rfl (.tmp 46) (.tmp 48) rfl B _ (N + 1) _ rfl (hown3.alloc _) _ _ _ [_] rfl (SrcB.one _ _) (by omega) (by simp; omega) ?_; intro ao4 cap4 w4 hown4 hb4))
          go_roundw
          case rel => exact ⟨k + 1, N + 1 + 1, cap4, ao4, cs ++ [[92, _]], by omega, by go_num, rfl, rel_esc hown4, chunks_esc hcs _, by omega, (((hb.alloc (by omega) _).trans hb3).alloc (by omega) _).trans hb4⟩
          case measure => simp [intOf]; omega
        · have hpos2 : 0 < len := by omega
          have hr : k % len < len := Nat.mod_lt _ hpos2
          go_wp2_with (first
            | (at_builtin; refine appB rfl (.tmp 43) (.tmp 44) rfl B _ N _ rfl (hown.alloc _) _ _ _ [_] rfl (SrcB.one _ _) (by omega) (by simp; omega) ?_; intro ao3 cap3 w3 hown3 hb3; have hz3 := hb3.size; simp only [World.size_alloc] at hz3)
            | (at_builtin; refine appB rfl (.tmp 46) (.tmp 48) rfl B _ (N + 1) _ rfl (hown3.alloc _) _ _ _ [_] rfl (SrcB.one _ _) (by omega) (by simp; omega) ?_; intro ao4 cap4 w4 hown4 hb4))
          go_roundw
          case rel => exact ⟨k + 1, N + 1 + 1, cap4, ao4, cs ++ [[92, _]], by omega, by go_num, rfl, rel_esc hown4, chunks_esc hcs _, by omega, (((hb.alloc (by omega) _).trans hb3).alloc (by omega) _).trans hb4⟩
          case measure => simp [intOf]; omega
      · have H34 : Hid ((s[k].toNat : Int) ≠ 34) := h34
        have n34 : ((s[k].toNat : Int) == 34) = false := by simpa using h34
        clear h34
        by_cases h92 : (s[k].toNat : Int) = 92
        · rcases hmark with rfl | ⟨b, off, hpos, rfl, hg⟩
          · go_wp2_with (first
              | (at_builtin; refine appB rfl (.tmp 43) (.tmp 44) rfl B _ N _ rfl (hown.alloc _) _ _ _ [_] rfl (SrcB.one _ _) (by omega) (by simp; omega) ?_; intro ao3 cap3 w3 hown3 hb3; have hz3 := hb3.size; simp only [World.size_alloc] at hz3)
              | (at_builtin; refine appB rfl (.tmp 46) (.tmp 48) rfl B _ (N + 1) _ rfl (hown3.alloc _) _ _ _ [_] rfl (SrcB.one _ _) (by omega) (by simp; omega) ?_; intro ao4 cap4 w4 hown4 hb4))
            go_roundw
            case rel => exact ⟨k + 1, N + 1 + 1, cap4, ao4, cs ++ [[92, _]], by omega, by go_num, rfl, rel_esc hown4, chunks_esc hcs _, by omega, (((hb.alloc (by omega) _).trans hb3).alloc (by omega) _).trans hb4⟩
            case measure => simp [intOf]; omega
          · have hpos2 : 0 < len := by omega
            have hr : k % len < len := Nat.mod_lt _ hpos2
            go_wp2_with (first
              | (at_builtin; refine appB rfl (.tmp 43) (.tmp 44) rfl B _ N _ rfl (hown.alloc _) _ _ _ [_] rfl (SrcB.one _ _) (by omega) (by simp; omega) ?_; intro ao3 cap3 w3 hown3 hb3; have hz3 := hb3.size; simp only [World.size_alloc] at hz3)
              | (at_builtin; refine appB rfl (.tmp 46) (.tmp 48) rfl B _ (N + 1) _ rfl (hown3.alloc _) _ _ _ [_] rfl (SrcB.one _ _) (by omega) (by simp; omega) ?_; intro ao4 cap4 w4 hown4 hb4))
            go_roundw
            case rel => exact ⟨k + 1, N + 1 + 1, cap4, ao4, cs ++ [[92, _]], by omega, by go_num, rfl, rel_esc hown4, chunks_esc hcs _, by omega, (((hb.alloc (by omega) _).trans hb3).alloc (by omega) _).trans hb4⟩
            case measure => simp [intOf]; omega
        · have H92 : Hid ((s[k].toNat : Int) ≠ 92) := h92
          have n92 : ((s[k].toNat : Int) == 92) = false := by simpa using h92
          clear h92
          rcases hmark with rfl | ⟨b, off, hpos, rfl, hg⟩
          · go_wp2_with (at_builtin; refine appB rfl (.tmp 46) (.tmp 48) rfl B _ N _ rfl (hown.alloc _) _ _ _ [_] rfl (SrcB.one _ _) (by omega) (by simp; omega) ?_; intro ao4 cap4 w4 hown4 hb4)
            go_roundw
            case rel => exact ⟨k + 1, N + 1, cap4, ao4, cs ++ [[_]], by omega, by go_num, rfl, rel_plain hown4, chunks_plain hcs H34.out H92.out, by omega, (hb.alloc (by omega) _).trans hb4⟩
            case measure => simp [intOf]; omega
          · have hpos2 : 0 < len := by omega
            have hr : k % len < len := Nat.mod_lt _ hpos2
            cases hm : (bits BinOp.and IntKind.u8 (z[k % len]?.getD 0) 1 == 1)
            · go_wp2_with (at_builtin; refine appB rfl (.tmp 46) (.tmp 48) rfl B _ N _ rfl (hown.alloc _) _ _ _ [_] rfl (SrcB.one _ _) (by omega) (by simp; omega) ?_; intro ao4 cap4 w4 hown4 hb4)
              go_roundw
              case rel => exact ⟨k + 1, N + 1, cap4, ao4, cs ++ [[_]], by omega, by go_num, rfl, rel_plain hown4, chunks_plain hcs H34.out H92.out, by omega, (hb.alloc (by omega) _).trans hb4⟩
              case measure => simp [intOf]; omega
            · go_wp2_with (first
                | (at_builtin; refine appB rfl (.tmp 43) (.tmp 44) rfl B _ N _ rfl (hown.alloc _) _ _ _ [_] rfl (SrcB.one _ _) (by omega) (by simp; omega) ?_; intro ao3 cap3 w3 hown3 hb3; have hz3 := hb3.size; simp only [World.size_alloc] at hz3)
                | (at_builtin; refine appB rfl (.tmp 46) (.tmp 48) rfl B _ (N + 1) _ rfl (hown3.alloc _) _ _ _ [_] rfl (SrcB.one _ _) (by omega) (by simp; omega) ?_; intro ao4 cap4 w4 hown4 hb4))
              go_roundw
              case rel => exact ⟨k + 1, N + 1 + 1, cap4, ao4, cs ++ [[92, _]], by omega, by go_num, rfl, rel_esc hown4, chunks_esc hcs _, by omega, (((hb.alloc (by omega) _).trans hb3).alloc (by omega) _).trans hb4⟩
              case measure => simp [intOf]; omega
    · go_wp2_with (at_builtin; refine appB rfl (.tmp 50) (.tmp 51) rfl B _ N _ rfl (hown.alloc _) _ _ _ [_] rfl (SrcB.one _ _) (by omega) (by simp; omega) ?_; intro ao4 cap4 w4 hown4 hb4)
      go_ret
      exact ⟨cs, ao4, N + 1, cap4, rfl, by simpa using hown4, hcs, by omega, (hb.alloc (by omega) _).trans hb4⟩
end Go.Proofs.Qxb6001598a.base
