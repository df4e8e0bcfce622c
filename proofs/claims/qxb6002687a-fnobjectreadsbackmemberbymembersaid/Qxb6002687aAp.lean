/- A slice that is appended to while another block of the call's own is looked at. -/
import Derived.Test.Qxb6002687aBase
import Derived.Maps.AppendAt
namespace Go.Zq
set_option linter.unusedVariables false
set_option linter.unusedSimpArgs false
open Go.RowKit Go.Zp

/-- v owns bs from base on; below base the world is as w0 was; block H holds O, and v does not lie there. -/
structure Ap (base : Nat) (w0 : World) (H : Nat) (O : Obj) (w : World) (v : Value) (bs : List Int) : Prop where
  own : Own base w v bs
  below : Below base w0 w
  size : base ≤ w.heap.size
  blk : w.heap[H]? = some O
  apart : v.ownBlock ≠ some H

theorem Ap.lt {base : Nat} {w0 : World} {H : Nat} {O : Obj} {w : World} {v : Value} {bs : List Int} (h : Ap base w0 H O w v bs) : H < w.heap.size := (Array.getElem?_eq_some_iff.1 h.blk).1

theorem Ap.alloc {base : Nat} {w0 : World} {H : Nat} {O : Obj} {w : World} {v : Value} {bs : List Int} (h : Ap base w0 H O w v bs) (o : Obj) : Ap base w0 H O (w.alloc o) v bs :=
  ⟨h.own.alloc o, h.below.alloc h.size o, by have := h.size; simp; omega, (Below.heap_alloc w o H h.lt).trans h.blk, h.apart⟩

theorem Ap.drew {base : Nat} {w0 : World} {H : Nat} {O : Obj} {w : World} {v : Value} {bs : List Int} (h : Ap base w0 H O w v bs) : Ap base w0 H O w.drew v bs :=
  ⟨h.own, h.below.drew, h.size, h.blk, h.apart⟩

theorem run_append_Ap {P : Program} {base : Nat} {w0 : World} {H : Nat} {O : Obj} {w : World} {v : Value} {bs : List Int} (hA : Ap base w0 H O w v bs) (t ty : TypeId) (ht : P.underlying t = some (.slice 5))
    (hi : (P.info? 5).map (fun i => (i.zero, i.size, i.bytes)) = some (some (.int .u8 0), 1, 1))
    (ao : Option Addr) (m c : Nat) (ns : List Int) (hsrc : SrcB w ao m c ns) (hsz : bs.length + m ≤ 70368744177664) :
    ∃ v' w', (Builtin.append_ #[t, t] ty #[v, .slice ao m c]).run P w = .ok v' w' ∧ Ap base w0 H O w' v' (bs ++ ns) ∧ w.grownBy w' v.ownBlock := by
  obtain ⟨i0, hi, hz0, hz1, hz2⟩ := info_parts hi
  obtain ⟨hm, hs⟩ := hsrc
  have hlt := hA.lt
  rcases hs with ⟨rfl, rfl, rfl⟩ | ⟨ad, rfl, hc⟩
  · obtain rfl : ns = [] := List.eq_nil_of_length_eq_zero hm
    exact ⟨v, w, run_append_owned_none (P := P) (w := w) base t ty 5 i0 1 ht hi v _ _ hA.own, by simpa using hA, World.grownBy.refl _ _⟩
  · obtain ⟨v', w', hr, h2, h3, _, h4⟩ := run_append_own_at (P := P) w base t ty 5 i0 (.int .u8 0) 1 1 ht hi hz0 hz1 hz2 rfl (by decide) v _ _ hA.own ad m c (cellsB ns) (by simp [cellsB_length, hm]) hc (cellsB_one _) (by unfold maxLen; omega) (by omega) hA.size
    refine ⟨v', w', hr, ⟨by unfold Own; rw [cellsB_append, List.length_append, hm]; exact h2, hA.own.below h3 hA.below hA.size, by have := h3.size; have := hA.size; omega, ?_, ?_⟩, h3⟩
    · rw [h3.block H hlt (fun e => hA.apart e.symm)]; exact hA.blk
    · rcases h4 with h4 | h4
      · rw [h4]; exact hA.apart
      · rw [h4]; intro e; cases e; omega

theorem wpList_append_Ap {P : Program} {w : World} {ops : Array Oper} {rest : List Oper} {o : Oper} {a : Act} {Q : Exit → Act → World → Prop} (hgd : o.guard = none) (s x : Operand) (t : TypeId)
    (ho : o.op = .call { callee := .builtin .append, args := #[s, x], argTypes := #[t, t] })
    (ht : P.underlying t = some (.slice 5)) (hi : (P.info? 5).map (fun i => (i.zero, i.size, i.bytes)) = some (some (.int .u8 0), 1, 1))
    (base : Nat) (w0 : World) (H : Nat) (O : Obj) (v : Value) (bs ns : List Int) (ao : Option Addr) (m c : Nat) (hs : a.eval s = v) (hx : a.eval x = .slice ao m c)
    (hA : Ap base w0 H O w v bs) (hsrc : SrcB w ao m c ns) (hsz : bs.length + m ≤ 70368744177664)
    (h : ∀ v' w', Ap base w0 H O w' v' (bs ++ ns) → wpList P ops Q rest (a.put o.dst v') w') : wpList P ops Q (o :: rest) a w := by
  refine wpList_plain hgd fun K hK => ?_
  obtain ⟨v', w', hr, h2, h3⟩ := run_append_Ap (P := P) hA t o.type ht hi ao m c ns hsrc hsz
  unfold Oper.wp execOp
  simp only [ho, resolve, invoke, builtin, Sem.run_bind, Sem.run_pure, Result.andThen_ok, List.map_toArray, List.map_cons, List.map_nil, hs, hx, hr]
  exact hK _ _ (h v' w' h2)

/-- The same as one step of a region that draws its order. -/
theorem step_append_Ap {P : Program} {w : World} {ops : Array Oper} {o : Oper} {a : Act} {K : Act → World → Prop} {Q : Exit → Act → World → Prop} {E : Prop} (hgd : o.guard = none) (s x : Operand) (t : TypeId)
    (ho : o.op = .call { callee := .builtin .append, args := #[s, x], argTypes := #[t, t] })
    (ht : P.underlying t = some (.slice 5)) (hi : (P.info? 5).map (fun i => (i.zero, i.size, i.bytes)) = some (some (.int .u8 0), 1, 1))
    (base : Nat) (w0 : World) (H : Nat) (O : Obj) (v : Value) (bs ns : List Int) (ao : Option Addr) (m c : Nat) (hs : a.eval s = v) (hx : a.eval x = .slice ao m c)
    (hA : Ap base w0 H O w v bs) (hsrc : SrcB w ao m c ns) (hsz : bs.length + m ≤ 70368744177664)
    (h : ∀ v' w', Ap base w0 H O w' v' (bs ++ ns) → w.grownBy w' v.ownBlock → K (a.put o.dst v') w') :
    if Region.wanted o (yielded ops a.tmps) = true then Oper.wp P o a w K Q else E := by
  have hw : Region.wanted o (yielded ops a.tmps) = true := by simp [Region.wanted, hgd]
  rw [if_pos hw]
  obtain ⟨v', w', hr, h2, h3⟩ := run_append_Ap (P := P) hA t o.type ht hi ao m c ns hsrc hsz
  unfold Oper.wp execOp
  simp only [ho, resolve, invoke, builtin, Sem.run_bind, Sem.run_pure, Result.andThen_ok, List.map_toArray, List.map_cons, List.map_nil, hs, hx, hr]
  exact h v' w' h2 h3

theorem Ap.at {base : Nat} {w0 : World} {H : Nat} {cur : Array Value} {t : TypeId} {fr : Nat × Nat} {w : World} {v : Value} {bs : List Int} (h : Ap base w0 H (.cells cur t fr) w v bs) (i : Nat) {x : Value} (hx : cur[i]? = some x) :
    w.cell? ⟨H, i, none⟩ = some x := by rw [cell_of_row w H i cur t fr h.blk]; exact hx

theorem Ap.start {base : Nat} {w0 w : World} {v : Value} {bs : List Int} (h : Own base w v bs) (hb : Below base w0 w) (hs : base ≤ w.heap.size) (o : Obj) : Ap base w0 w.heap.size o (w.alloc o) v bs :=
  ⟨h.alloc o, hb.alloc hs o, by simp; omega, heap_alloc_new w o, fun e => by have := h.lt _ e; omega⟩

/-- one step: what is appended lies below base -/
theorem step_append_ApRd {P : Program} {w : World} {ops : Array Oper} {o : Oper} {a : Act} {K : Act → World → Prop} {Q : Exit → Act → World → Prop} {E : Prop} (hgd : o.guard = none) (s x : Operand) (t : TypeId)
    (ho : o.op = .call { callee := .builtin .append, args := #[s, x], argTypes := #[t, t] })
    (ht : P.underlying t = some (.slice 5)) (hi : (P.info? 5).map (fun i => (i.zero, i.size, i.bytes)) = some (some (.int .u8 0), 1, 1))
    (base : Nat) (w0 : World) (H : Nat) (O : Obj) (v : Value) (bs ns : List Int) (ao : Option Addr) (m c : Nat) (hs : a.eval s = v) (hx : a.eval x = .slice ao m c)
    (hA : Ap base w0 H O w v bs) (hrd : Rd w0 base ao c ns) (hm : ns.length = m) (hsz : bs.length + m ≤ 70368744177664)
    (h : ∀ v' w', Ap base w0 H O w' v' (bs ++ ns) → w.grownBy w' v.ownBlock → K (a.put o.dst v') w') :
    if Region.wanted o (yielded ops a.tmps) = true then Oper.wp P o a w K Q else E := by
  subst hm
  exact step_append_Ap hgd s x t ho ht hi base w0 H O v bs ns ao _ c hs hx hA (hrd.keep hA.below).src hsz h

/-- one step: what is appended is one byte in a block of its own, laid just now, or before the last append -/
theorem step_append_ApOne {P : Program} {w : World} {ops : Array Oper} {o : Oper} {a : Act} {K : Act → World → Prop} {Q : Exit → Act → World → Prop} {E : Prop} (hgd : o.guard = none) (s x : Operand) (t : TypeId)
    (ho : o.op = .call { callee := .builtin .append, args := #[s, x], argTypes := #[t, t] })
    (ht : P.underlying t = some (.slice 5)) (hi : (P.info? 5).map (fun i => (i.zero, i.size, i.bytes)) = some (some (.int .u8 0), 1, 1))
    (base : Nat) (w0 : World) (H : Nat) (O : Obj) (v : Value) (bs : List Int) (b : Int) (g : Nat) (hs : a.eval s = v) (hx : a.eval x = .slice (some ⟨g, 0, none⟩) 1 1)
    (hA : Ap base w0 H O w v bs) (hg : w.heap[g]? = some (.cells #[.int .u8 b] 5)) (hsz : bs.length + 1 ≤ 70368744177664)
    (h : ∀ v' w', Ap base w0 H O w' v' (bs ++ [b]) → w.grownBy w' v.ownBlock → K (a.put o.dst v') w') :
    if Region.wanted o (yielded ops a.tmps) = true then Oper.wp P o a w K Q else E :=
  step_append_Ap hgd s x t ho ht hi base w0 H O v bs [b] _ 1 1 hs hx hA (SrcB.block hg rfl rfl) hsz h

theorem SrcB.drew {w : World} {ao : Option Addr} {m c : Nat} {ns : List Int} (h : SrcB w ao m c ns) : SrcB w.drew ao m c ns := h

end Go.Zq
