import Derived.Test.Qxb6600108aC2
namespace Go.Proofs.Qxb6600108a
set_option linter.unusedVariables false
set_option linter.unusedSimpArgs false
open Go.RowKit Go.Zq Go.Zp

theorem Try.info22 : (Try.prog.info? 22).map (fun i => (i.zero, i.size, i.bytes)) = some (some (.slice none 0 0), 1, 24) := by kernel_rfl

/-- v owns a row of slice values, in a block from base on. -/
def OwnR (base : Nat) (w : World) (v : Value) (xs : List Value) : Prop := w.ownsRow base 22 1 v xs.length xs

theorem OwnR.nil (base : Nat) (w : World) : OwnR base w (.slice none 0 0) [] := World.ownsRow_nil _ _ _ _

/-- Two owned rows of other element types lie in other blocks. -/
theorem own_apart {base base' : Nat} {w : World} {v u : Value} {bs : List Int} {xs : List Value} (h : Own base w v bs) (h' : OwnR base' w u xs) : ∀ k, v.ownBlock = some k → u.ownBlock ≠ some k := by
  intro k hk hk'
  rcases h.2 with ⟨rfl, _⟩ | ⟨g, cap, cur, rfl, _, hg, _⟩
  · cases hk
  rcases h'.2 with ⟨rfl, _⟩ | ⟨g', cap', cur', rfl, _, hg', _⟩
  · cases hk'
  simp only [Value.ownBlock, Option.some.injEq] at hk hk'
  subst hk
  subst hk'
  rw [hg] at hg'
  simp at hg'

theorem Own.grown {base base' : Nat} {w w' : World} {v u : Value} {bs : List Int} {xs : List Value} (h : Own base w v bs) (h' : OwnR base' w u xs) (hg : w.grownBy w' u.ownBlock) : Own base w' v bs := by
  have hap := own_apart h h'
  have hlt := h.lt
  obtain ⟨h1, h2⟩ := h
  refine ⟨h1, ?_⟩
  rcases h2 with h2 | ⟨g, cap, cur, rfl, hgb, hh, r⟩
  · exact .inl h2
  · refine .inr ⟨g, cap, cur, rfl, hgb, ?_, r⟩
    rw [hg.block g (hlt g rfl) (fun e => hap g rfl e.symm)]
    exact hh

theorem wpList_append_one (w : World) {ops : Array Oper} {rest : List Oper} {o : Oper} {a : Act} {Q : Exit → Act → World → Prop} (hgd : o.guard = none) (s x : Operand)
    (ho : o.op = .call { callee := .builtin .append, args := #[s, x], argTypes := #[37, 37] })
    (base : Nat) (v u : Value) (xs : List Value) (cur : Array Value) (hcur : cur.toList = [u]) (hs : a.eval s = v) (hx : a.eval x = .slice (some ⟨w.heap.size, 0, none⟩) 1 1) (hu : u.oneCell' = true)
    (hown : OwnR base w v xs) (hsz : xs.length + 1 ≤ 1000000000) (hbase : base ≤ w.heap.size)
    (h : ∀ v' w', OwnR base w' v' (xs ++ [u]) → (w.alloc (.cells cur 22)).grownBy w' v.ownBlock → wpList Try.prog ops Q rest (a.put o.dst v') w') : wpList Try.prog ops Q (o :: rest) a (w.alloc (.cells cur 22)) := by
  obtain rfl : cur = #[u] := by cases cur; simp_all
  refine wpList_plain hgd fun K hK => ?_
  obtain ⟨i0, hi, hz0, hz1, hz2⟩ := info_parts Try.info22
  obtain ⟨v', w', hr, h2, h3, _⟩ := run_append_own (P := Try.prog) (w.alloc (.cells #[u] 22)) base 37 o.type 22 i0 (.slice none 0 0) 1 24 Try.underlying37 hi hz0 hz1 hz2 rfl (by decide) v _ _ (World.ownsRow.alloc hown _) ⟨w.heap.size, 0, none⟩ 1 1 [u] (by simp)
    (fun j y hj => by
      have hj0 : j = 0 := by
        have := (List.getElem?_eq_some_iff.1 hj).1
        simp at this; exact this
      subst hj0
      simp at hj
      subst hj
      rw [Addr.add_lit]
      rw [cell_of_row _ w.heap.size 0 #[u] 22 (0, 0) (heap_alloc_new w _)]
      rfl) (by simpa using hu) (by unfold maxLen; omega) (by omega) (by simp; omega)
  unfold Oper.wp execOp
  simp only [ho, resolve, invoke, builtin, Sem.run_bind, Sem.run_pure, Result.andThen_ok, List.map_toArray, List.map_cons, List.map_nil, hs, hx, hr]
  refine hK _ _ (h v' w' ?_ h3)
  unfold OwnR
  rw [List.length_append]
  exact h2

end Go.Proofs.Qxb6600108a
