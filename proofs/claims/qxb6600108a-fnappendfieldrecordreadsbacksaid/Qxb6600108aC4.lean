import Derived.Test.Qxb6600108aC3
import Derived.Test.Qxb6600108aCsv2
namespace Go.Proofs.Qxb6600108a
set_option linter.unusedVariables false
set_option linter.unusedSimpArgs false
open Go.RowKit Go.Zq Go.Zp

theorem OwnR.lt {base : Nat} {w : World} {v : Value} {xs : List Value} (h : OwnR base w v xs) : ∀ k, v.ownBlock = some k → k < w.heap.size := fun k hk => (World.ownsRow.lt h k hk).2
theorem OwnR.later {base : Nat} {w w' : World} {v : Value} {xs : List Value} (h : OwnR base w v xs) (hb : Below w.heap.size w w') : OwnR base w' v xs := by
  have hlt := h.lt
  obtain ⟨h1, h2⟩ := h
  refine ⟨h1, ?_⟩
  rcases h2 with h2 | ⟨g, cap, cur, rfl, hg, hh, r⟩
  · exact .inl h2
  · exact .inr ⟨g, cap, cur, rfl, hg, by rw [hb.block g (hlt g rfl)]; exact hh, r⟩
theorem OwnR.alloc {base : Nat} {w : World} {v : Value} {xs : List Value} (h : OwnR base w v xs) (o : Obj) : OwnR base (w.alloc o) v xs := World.ownsRow.alloc h o
theorem OwnR.below {base : Nat} {w0 w w' : World} {v : Value} {xs : List Value} (h : OwnR base w v xs) (hg : w.grownBy w' v.ownBlock) (hb : Below base w0 w) (hs : base ≤ w.heap.size) : Below base w0 w' :=
  hb.grown hg hs (fun k hk => (World.ownsRow.lt h k hk).1)

/-- The values es read as the fields xss, each in a row of its own. -/
def Els (w : World) (es : List Value) (xss : List (List Int)) : Prop := es.length = xss.length ∧ ∀ j, j < xss.length → ∃ e, es[j]? = some e ∧ Own 0 w e (xss.getD j [])

theorem Els.later {w w' : World} {es : List Value} {xss : List (List Int)} (h : Els w es xss) (hb : Below w.heap.size w w') : Els w' es xss :=
  ⟨h.1, fun j hj => by obtain ⟨e, h1, h2⟩ := h.2 j hj; exact ⟨e, h1, h2.later hb⟩⟩
/-- One field more: its row is appended to the row of fields. -/
theorem Els.snoc {base : Nat} {w w' : World} {es : List Value} {xss : List (List Int)} {v u : Value} {x : List Int} (o : Obj) (h : Els w es xss) (hv : OwnR base w v es) (hu : Own 0 w u x)
    (hg : (w.alloc o).grownBy w' v.ownBlock) : Els w' (es ++ [u]) (xss ++ [x]) := by
  refine ⟨by simp [h.1], fun j hj => ?_⟩
  by_cases hjx : j < xss.length
  · obtain ⟨e, h1, h2⟩ := h.2 j hjx
    refine ⟨e, by rw [List.getElem?_append_left (by have := h.1; omega)]; exact h1, ?_⟩
    have e2 : (xss ++ [x]).getD j [] = xss.getD j [] := by
      simp [List.getElem?_append_left hjx]
    rw [e2]
    exact Own.grown (h2.alloc o) (hv.alloc o) hg
  · have hj2 : j = xss.length := by simp at hj; omega
    subst hj2
    refine ⟨u, by rw [← h.1]; simp, ?_⟩
    have e2 : (xss ++ [x]).getD xss.length [] = x := by simp
    rw [e2]
    exact Own.grown (hu.alloc o) (hv.alloc o) hg

end Go.Proofs.Qxb6600108a
