/- From the reading of a slice of strings to the predicate of the walks. -/
import Derived.Test.Qxb6600108aC1
import Derived.Test.Qxb6600108aOpen
import Derived.SliceStrings
namespace Go.Proofs.Qxb6600108a
set_option linter.unusedVariables false
set_option linter.unusedSimpArgs false
open Go.ChangeShapes Go.WideShapes Go.ChangeAt Go.RowKit Go.Zq Go.Zp

theorem rdS_open {H : Type} {enc : TypeId × Value → H} {W : World} {base : Nat} {held : Bool} {a : Option Addr} {len cap : Nat} {d : DataW H} {p : List MemPlace}
    (h : DataW.Trod enc Try.prog W base (fun _ => true) held 34 (.slice a len cap) d p) : ∃ ss, RdS W W.heap.size a cap ss ∧ ss.length = len := by
  obtain ⟨fuel, hf⟩ := h
  rcases open_strings Try.underlying34 Try.underlying9 (by kernel_rfl) hf with ⟨hcs, _⟩ | ⟨x, l, c, zs, hcs, _, hl, hm, hz, _, hcell, hwz⟩
  · simp [Value.cells] at hcs
    obtain ⟨rfl, rfl, rfl⟩ := hcs
    exact ⟨[], ⟨Nat.le_refl _, by simp [maxLen], fun _ => rfl, fun i => by simp [sat, maxLen], .inl rfl⟩, rfl⟩
  · simp [Value.cells] at hcs
    obtain ⟨rfl, rfl, rfl⟩ := hcs
    have hz : zs.length = cap := by simpa using hz
    have hlen : (zs.take len).length = len := by simp; omega
    have hsat : ∀ i, i < len → sat (zs.take len) i = zs.getD i ByteArray.empty := by
      intro i hi
      unfold sat
      simp only [List.getD_eq_getElem?_getD]
      rw [List.getElem?_take, if_pos (by omega)]
    have hsz : ∀ i, (sat (zs.take len) i).size ≤ maxLen := by
      intro i
      by_cases hi : i < len
      · rw [hsat i hi]
        simp only [List.getD_eq_getElem?_getD]
        rw [List.getElem?_eq_getElem (by omega)]
        exact hwz _ (List.getElem_mem _)
      · unfold sat
        simp only [List.getD_eq_getElem?_getD]
        rw [List.getElem?_eq_none (by omega)]
        simp [maxLen]
    refine ⟨zs.take len, ⟨by omega, hm, by simp, hsz, ?_⟩, hlen⟩
    by_cases h0 : len = 0
    · exact .inl (by omega)
    · obtain ⟨b, off, spot⟩ := x
      have hspot : spot = none := by simpa [Addr.add] using World.cell?_spot (hcell 0 (by omega))
      subst hspot
      refine .inr ⟨b, off, rfl, ?_, fun i hi => ?_⟩
      · have h1 := hcell 0 (by omega)
        rw [Addr.add_lit] at h1
        have := World.block_lt_of_cell? W _ h1; exact this
      · have h1 := hcell i (by omega)
        rw [Addr.add_lit] at h1
        rw [h1, hsat i (by omega)]

end Go.Proofs.Qxb6600108a
