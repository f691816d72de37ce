import Derived.Test.Qxb6001598aEnc
import Derived.ProofKit
import Derived.OpenShut
import Derived.ShutString
import Derived.ChangeOld
namespace Go.Proofs.Qxb6001598a.base
open Go.ChangeShapes Go.WideShapes Go.ChangeAt Go.RowKit

theorem u8_bounds {x : Int} (h : (Lit.int .u8 x).wf = true) : 0 ≤ x ∧ x ≤ 255 := by
  simp [Lit.wf, IntKind.min, IntKind.max, IntKind.signed, IntKind.bits] at h
  omega

/-- A slice of bytes that can be read. -/
theorem open_bytes {H : Type} {enc : TypeId × Value → H} {W : World} {a : Option Addr} {len cap : Nat} {d : DataW H} {ps : List MemPlace}
    (h : DataW.Trod enc Try.prog W 0 (fun _ => true) true 22 (.slice a len cap) d ps) : ∃ z, ArgB W W.heap.size a len cap z := by
  obtain ⟨fuel, hf⟩ := h
  rcases open_ints Try.underlying22 Try.underlying5 (by kernel_rfl) hf with ⟨hcs, _⟩ | ⟨x, l, c, zs, hcs, _, hl, hm, hz, _, hcell, hwz⟩
  · simp [Value.cells] at hcs
    obtain ⟨rfl, rfl, rfl⟩ := hcs
    exact ⟨[], rfl, Or.inl ⟨rfl, fun _ => rfl⟩⟩
  · simp [Value.cells] at hcs
    obtain ⟨rfl, rfl, rfl⟩ := hcs
    have hz' : zs.length = cap := by simpa using hz
    by_cases h0 : len = 0
    · subst h0
      exact ⟨[], rfl, Or.inl ⟨rfl, fun e => by cases e⟩⟩
    · obtain ⟨b, off, spot⟩ := x
      have hc0 := hcell 0 (by omega)
      have hspot : spot = none := by simpa [Addr.add] using World.cell?_spot hc0
      subst hspot
      have hcl : ∀ i, i < zs.length → W.cell? ⟨b, off + i, none⟩ = some (.int .u8 (zs.getD i 0)) := fun i hi => by
        have := hcell i hi
        rwa [Addr.add_lit] at this
      have hb : b < W.heap.size := by
        by_cases hb : b < W.heap.size
        · exact hb
        · have := hcl 0 (by omega)
          simp [World.cell?, show W.heap[b]? = none from by simp; omega] at this
      refine ⟨zs.take len, by simp; omega, Or.inr ⟨b, off, rfl, hb, fun j hj => ?_⟩⟩
      have e : (zs.take len).getD j 0 = zs.getD j 0 := by simp [List.getD, List.getElem?_take_of_lt hj]
      rw [e]
      refine ⟨hcl j (by omega), ?_⟩
      have hmem : zs.getD j 0 ∈ zs := by
        have : zs.getD j 0 = zs[j]'(by omega) := by simp [List.getD, List.getElem?_eq_getElem (show j < zs.length by omega)]
        rw [this]
        exact List.getElem_mem _
      exact u8_bounds (hwz _ hmem)
end Go.Proofs.Qxb6001598a.base
