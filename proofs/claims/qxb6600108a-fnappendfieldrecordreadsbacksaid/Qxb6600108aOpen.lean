/- From the readings that the row's step gives to the predicates of the walks. -/
import Derived.Test.Qxb6600108aBase
import Derived.Test.Qxb6600108aRows
import Derived.ProofKit
import Derived.OpenShut
import Derived.ShutString
import Derived.ChangeOld
namespace Go.Proofs.Qxb6600108a
set_option linter.unusedVariables false
set_option linter.unusedSimpArgs false
open Go.ChangeShapes Go.WideShapes Go.ChangeAt Go.RowKit Go.Zq Go.Zp

theorem own : ownKnob Try.prog.godebug = none := by kernel_rfl
theorem laidOut : laidOutB Try.prog = true := by kernel_rfl

theorem rd_row {w : World} {x : Addr} {len cap : Nat} {zs : List Int} (hl : len ≤ cap) (hm : cap ≤ maxLen) (hz : zs.length = cap)
    (hc : ∀ i, i < zs.length → w.cell? (x.add i) = some (.int .u8 (zs.getD i 0))) : Rd w w.heap.size (some x) cap (zs.take len) ∧ (zs.take len).length = len := by
  have hlen : (zs.take len).length = len := by simp; omega
  refine ⟨⟨by omega, hm, by simp, ?_⟩, hlen⟩
  by_cases h0 : len = 0
  · exact .inl (by omega)
  · obtain ⟨b, off, rfl, hc'⟩ := ints_at hc (by omega)
    refine .inr ⟨b, off, rfl, ?_, fun i hi => ?_⟩
    · have := World.block_lt_of_cell? w _ (hc' 0 (by omega)); exact this
    · rw [hc' i (by omega)]
      unfold bat
      simp only [List.getD_eq_getElem?_getD]
      rw [List.getElem?_take, if_pos (by omega)]

theorem rd_open {H : Type} {enc : TypeId × Value → H} {W : World} {base : Nat} {held : Bool} {a : Option Addr} {len cap : Nat} {d : DataW H} {p : List MemPlace}
    (h : DataW.Trod enc Try.prog W base (fun _ => true) held 22 (.slice a len cap) d p) : ∃ bs, Rd W W.heap.size a cap bs ∧ bs.length = len ∧ ∀ c ∈ bs, 0 ≤ c ∧ c < 256 := by
  obtain ⟨fuel, hf⟩ := h
  rcases open_ints Try.underlying22 Try.underlying5 (by kernel_rfl) hf with ⟨hcs, _⟩ | ⟨x, l, c, zs, hcs, _, hl, hm, hz, _, hcell, hwz⟩
  · simp [Value.cells] at hcs
    obtain ⟨rfl, rfl, rfl⟩ := hcs
    exact ⟨[], ⟨Nat.le_refl _, by simp [maxLen], fun _ => rfl, .inl rfl⟩, rfl, by simp⟩
  · simp [Value.cells] at hcs
    obtain ⟨rfl, rfl, rfl⟩ := hcs
    have hr := rd_row hl hm (by simpa using hz) hcell
    refine ⟨_, hr.1, hr.2, fun c hc => ?_⟩
    have := bounds_u8 (hwz c (List.mem_of_mem_take hc))
    omega

end Go.Proofs.Qxb6600108a
