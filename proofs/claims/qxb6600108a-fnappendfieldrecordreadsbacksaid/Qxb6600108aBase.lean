/-
  Memory predicates for byte slices: no Go text of the project in here.
-/
import Derived.WalkKit
import Derived.Test.Qxb6600108aPlain
import Derived.Laws.CopyOwn
import Derived.Laws.AppendOwnNone
import Derived.WalkSpells
import Derived.Deep.QuietTactic
import Derived.BigQuiet
import Derived.WalkSmall
import Derived.Handy
namespace Go.Zq
set_option linter.unusedVariables false
set_option linter.unusedSimpArgs false
open Go.RowKit Go.Zp

theorem hide {p : Prop} (h : p) : Hid p := h
theorem unhide {p : Prop} (h : Hid p) : p := h

/-- A list of bytes as cells. -/
def cellsB (bs : List Int) : List Value := bs.map (Value.int .u8)

theorem cellsB_length (bs : List Int) : (cellsB bs).length = bs.length := by simp [cellsB]
theorem cellsB_append (a b : List Int) : cellsB (a ++ b) = cellsB a ++ cellsB b := by simp [cellsB]
theorem cellsB_get {bs : List Int} {i : Nat} (h : i < bs.length) : (cellsB bs)[i]? = some (.int .u8 (bat bs i)) := by
  simp [cellsB, bat, List.getD, h]
theorem cellsB_one (bs : List Int) : ∀ u ∈ cellsB bs, u.oneCell' = true := by
  intro u hu
  obtain ⟨_, _, rfl⟩ := List.mem_map.1 hu
  rfl

/-- The slice '.slice a bs.length cap' reads as the bytes bs in w, and its cells lie below block B. -/
structure Rd (w : World) (B : Nat) (a : Option Addr) (cap : Nat) (bs : List Int) : Prop where
  le : bs.length ≤ cap
  max : cap ≤ maxLen
  nil : a = none → cap = 0
  cells : bs.length = 0 ∨ ∃ b off, a = some ⟨b, off, none⟩ ∧ b < B ∧ ∀ i, i < bs.length → w.cell? ⟨b, off + i, none⟩ = some (.int .u8 (bat bs i))

theorem Rd.keep {w w' : World} {B : Nat} {a : Option Addr} {cap : Nat} {bs : List Int} (h : Rd w B a cap bs) (hb : Below B w w') : Rd w' B a cap bs := by
  refine ⟨h.le, h.max, h.nil, ?_⟩
  rcases h.cells with h0 | ⟨b, off, rfl, hlt, hc⟩
  · exact .inl h0
  · exact .inr ⟨b, off, rfl, hlt, fun i hi => (hb.cell (p := ⟨b, off + i, none⟩) hlt).trans (hc i hi)⟩

theorem Rd.mono {w : World} {B B' : Nat} {a : Option Addr} {cap : Nat} {bs : List Int} (h : Rd w B a cap bs) (hB : B ≤ B') : Rd w B' a cap bs := by
  refine ⟨h.le, h.max, h.nil, ?_⟩
  rcases h.cells with h0 | ⟨b, off, rfl, hlt, hc⟩
  · exact .inl h0
  · exact .inr ⟨b, off, rfl, by omega, hc⟩

theorem Rd.drewN {w : World} {B : Nat} {a : Option Addr} {cap : Nat} {bs : List Int} (h : Rd w B a cap bs) (n : Nat) : Rd (w.drewN n) B a cap bs := by
  refine ⟨h.le, h.max, h.nil, ?_⟩
  rcases h.cells with h0 | ⟨b, off, rfl, hlt, hc⟩
  · exact .inl h0
  · exact .inr ⟨b, off, rfl, hlt, fun i hi => by simpa using hc i hi⟩

/-- The slice value v owns the bytes bs, in a block from base on. -/
def Own (base : Nat) (w : World) (v : Value) (bs : List Int) : Prop := w.ownsRow base 5 1 v bs.length (cellsB bs)

theorem Own.of {base n : Nat} {w : World} {v : Value} {bs : List Int} (h : w.ownsRow base 5 1 v n (cellsB bs)) (hn : bs.length = n) : Own base w v bs := by unfold Own; rw [hn]; exact h

theorem Own.nil (base : Nat) (w : World) : Own base w (.slice none 0 0) [] := World.ownsRow_nil _ _ _ _

theorem Own.rd {base : Nat} {w : World} {v : Value} {bs : List Int} (h : Own base w v bs) :
    ∃ a cap, v = .slice a bs.length cap ∧ Rd w w.heap.size a cap bs := by
  obtain ⟨h1, h2⟩ := h
  rcases h2 with ⟨rfl, h0⟩ | ⟨g, cap, cur, rfl, hb, hg, hn, hm, hs, ht⟩
  · exact ⟨none, 0, by rw [h0], by omega, by simp [maxLen], fun _ => rfl, .inl h0⟩
  · refine ⟨_, cap, rfl, hn, hm, by simp, .inr ⟨g, 0, rfl, (Array.getElem?_eq_some_iff.1 hg).1, fun i hi => ?_⟩⟩
    rw [Nat.zero_add, cell_of_row w g i cur 5 (0, 0) hg]
    have e := cellsB_get hi
    rw [← ht, List.getElem?_take, if_pos (by omega)] at e
    simpa using e

theorem Own.mono {base base' : Nat} {w : World} {v : Value} {bs : List Int} (h : Own base w v bs) (hb : base' ≤ base) : Own base' w v bs := by
  obtain ⟨h1, h2⟩ := h
  refine ⟨h1, ?_⟩
  rcases h2 with h2 | ⟨g, cap, cur, hv, hg, r⟩
  · exact .inl h2
  · exact .inr ⟨g, cap, cur, hv, by omega, r⟩

theorem Own.keep {base B : Nat} {w w' : World} {v : Value} {bs : List Int} (h : Own base w v bs) (hlt : ∀ k, v.ownBlock = some k → k < B) (hb : Below B w w') : Own base w' v bs := by
  obtain ⟨h1, h2⟩ := h
  refine ⟨h1, ?_⟩
  rcases h2 with h2 | ⟨g, cap, cur, rfl, hg, hh, r⟩
  · exact .inl h2
  · exact .inr ⟨g, cap, cur, rfl, hg, by rw [hb.block g (hlt g rfl)]; exact hh, r⟩

theorem Own.lt {base : Nat} {w : World} {v : Value} {bs : List Int} (h : Own base w v bs) : ∀ k, v.ownBlock = some k → k < w.heap.size := fun k hk => (World.ownsRow.lt h k hk).2

theorem Own.later {base : Nat} {w w' : World} {v : Value} {bs : List Int} (h : Own base w v bs) (hb : Below w.heap.size w w') : Own base w' v bs := h.keep h.lt hb

theorem Below.drewN {B : Nat} {w w' : World} (h : Below B w w') (n : Nat) : Below B w (w'.drewN n) :=
  ⟨by rw [← h.os]; rfl, by rw [← h.tape]; rfl, by rw [← h.output]; rfl, h.size, h.block⟩

theorem grownBy_setRow (w : World) (g : Nat) (cs : Array Value) : w.grownBy (w.setRow g cs) (some g) :=
  ⟨rfl, rfl, rfl, by simp, fun k _ hk => setRow_other w g k cs (fun e => hk (by rw [e]))⟩

/-- 'copy' of n cells over the whole of a row of n that the call made. -/
theorem run_copy_full {P : Program} (w : World) (dT sT ty e : TypeId) (base g n cap : Nat) (a : Option Addr) (xs zs : List Value)
    (hu : P.underlying dT = some (.slice e)) (hs : (P.info? e).map (·.size) = some 1)
    (hown : w.ownsRow base e 1 (.slice (some ⟨g, 0, none⟩) n n) n zs) (hx : xs.length = n)
    (hc : n = 0 ∨ ∃ ad, a = some ad ∧ ∀ j v, xs[j]? = some v → w.cell? (ad.add j) = some v) (h1 : ∀ v ∈ xs, v.oneCell' = true) :
    ∃ w', (Builtin.copy_ #[dT, sT] ty #[.slice (some ⟨g, 0, none⟩) n n, .slice a n cap]).run P w = .ok (.int .i64 n) w' ∧
      w'.ownsRow base e 1 (.slice (some ⟨g, 0, none⟩) n n) n xs ∧ w.grownBy w' (some g) := by
  rcases hc with rfl | ⟨ad, rfl, hsrc⟩
  · obtain rfl : xs = [] := List.eq_nil_of_length_eq_zero hx
    obtain rfl : zs = [] := List.eq_nil_of_length_eq_zero (by simpa using hown.1)
    refine ⟨w, ?_, hown, World.grownBy.refl _ _⟩
    rw [run_copy_none (P := P) w dT sT ty e _ a 0 0 0 cap hu hs (by simp)]
    rfl
  · rcases hown.2 with ⟨h, _⟩ | ⟨g', cap', cur, hv, hb, hg, hnc, hm, hcs, _⟩
    · simp at h
    · simp only [Value.slice.injEq, Option.some.injEq, Addr.mk.injEq, and_true, true_and] at hv
      obtain ⟨rfl, rfl⟩ := hv
      have hr := run_copy_row (P := P) w dT sT ty e g 0 n n ad n cap cur e xs hu hs hg (by simp [hx]) hsrc (by simp; omega) h1
      rw [hx] at hr
      refine ⟨_, hr, ⟨by simp [hx], .inr ⟨g, n, _, rfl, hb, setRow_heap w g cur _ e _ hg, Nat.le_refl _, hm, ?_, ?_⟩⟩, grownBy_setRow _ _ _⟩
      · simp [hx]; omega
      · simp [← hx]

/-- What is appended: m bytes ns, at the address ao (or none at all). -/
def SrcB (w : World) (ao : Option Addr) (m c : Nat) (ns : List Int) : Prop :=
  ns.length = m ∧ ((ao = none ∧ m = 0 ∧ c = 0) ∨ ∃ ad, ao = some ad ∧ ∀ j u, (cellsB ns)[j]? = some u → w.cell? (ad.add j) = some u)

theorem Rd.src {w : World} {B : Nat} {a : Option Addr} {cap : Nat} {bs : List Int} (h : Rd w B a cap bs) : SrcB w a bs.length cap bs := by
  refine ⟨rfl, ?_⟩
  rcases h.cells with h0 | ⟨b, off, rfl, hlt, hc⟩
  · have hb : bs = [] := List.eq_nil_of_length_eq_zero h0
    subst hb
    rcases a with _ | ad
    · exact .inl ⟨rfl, rfl, h.nil rfl⟩
    · exact .inr ⟨ad, rfl, by simp [cellsB]⟩
  · refine .inr ⟨_, rfl, fun j u hu => ?_⟩
    have hj : j < bs.length := by have := (List.getElem?_eq_some_iff.1 hu).1; simpa [cellsB] using this
    rw [cellsB_get hj] at hu
    rw [Addr.add_lit, hc j hj]; exact hu

theorem SrcB.block {w : World} {g m c : Nat} {ns : List Int} {cur : Array Value} {t : TypeId} {fr : Nat × Nat} (h : w.heap[g]? = some (.cells cur t fr)) (hc : cur.toList = cellsB ns) (hm : ns.length = m) :
    SrcB w (some ⟨g, 0, none⟩) m c ns := by
  refine ⟨hm, .inr ⟨_, rfl, fun j u hu => ?_⟩⟩
  rw [Addr.add_lit, Nat.zero_add, cell_of_row w g j cur t fr h, ← hu, ← hc]
  simp

/-- Built on the spot ('append(out, x, y)' lays x, y in a new block first). -/
theorem SrcB.built (w : World) (cur : Array Value) (t : TypeId) (fr : Nat × Nat) (ns : List Int) (m c : Nat) (hc : cur.toList = cellsB ns) (hm : ns.length = m) :
    SrcB (w.alloc (.cells cur t fr)) (some ⟨w.heap.size, 0, none⟩) m c ns :=
  SrcB.block (heap_alloc_new w _) hc hm

theorem Own.alloc {base : Nat} {w : World} {v : Value} {bs : List Int} (h : Own base w v bs) (o : Obj) : Own base (w.alloc o) v bs := World.ownsRow.alloc h o

/-- 'out = append(out, src...)', out nil or the call's own. -/
theorem run_append_B {P : Program} (w : World) (base : Nat) (t ty : TypeId) (ht : P.underlying t = some (.slice 5))
    (hi : (P.info? 5).map (fun i => (i.zero, i.size, i.bytes)) = some (some (.int .u8 0), 1, 1))
    (v : Value) (bs : List Int) (hown : Own base w v bs) (ao : Option Addr) (m c : Nat) (ns : List Int) (hsrc : SrcB w ao m c ns)
    (hsz : bs.length + m ≤ 70368744177664) (hbase : base ≤ w.heap.size) :
    ∃ v' w', (Builtin.append_ #[t, t] ty #[v, .slice ao m c]).run P w = .ok v' w' ∧ Own base w' v' (bs ++ ns) ∧ w.grownBy w' v.ownBlock := by
  obtain ⟨i0, hi, hz0, hz1, hz2⟩ := info_parts hi
  obtain ⟨hm, hs⟩ := hsrc
  rcases hs with ⟨rfl, rfl, rfl⟩ | ⟨ad, rfl, hc⟩
  · obtain rfl : ns = [] := List.eq_nil_of_length_eq_zero hm
    exact ⟨v, w, run_append_owned_none (P := P) (w := w) base t ty 5 i0 1 ht hi v _ _ hown, by simpa using hown, World.grownBy.refl _ _⟩
  · obtain ⟨v', w', hr, h2, h3, _⟩ := run_append_own (P := P) w base t ty 5 i0 (.int .u8 0) 1 1 ht hi hz0 hz1 hz2 rfl (by decide) v _ _ hown ad m c (cellsB ns) (by simp [cellsB_length, hm]) hc (cellsB_one _) (by unfold maxLen; omega) (by omega) hbase
    exact ⟨v', w', hr, by unfold Own; rw [cellsB_append, List.length_append, hm]; exact h2, h3⟩

theorem wpList_append_B {P : Program} (w : World) {ops : Array Oper} {rest : List Oper} {o : Oper} {a : Act} {Q : Exit → Act → World → Prop} (hgd : o.guard = none) (s x : Operand) (t : TypeId)
    (ho : o.op = .call { callee := .builtin .append, args := #[s, x], argTypes := #[t, t] })
    (base : Nat) (ht : P.underlying t = some (.slice 5)) (hi : (P.info? 5).map (fun i => (i.zero, i.size, i.bytes)) = some (some (.int .u8 0), 1, 1))
    (v : Value) (bs : List Int) (ao : Option Addr) (m c : Nat) (ns : List Int) (hs : a.eval s = v) (hx : a.eval x = .slice ao m c)
    (hown : Own base w v bs) (hsrc : SrcB w ao m c ns) (hsz : bs.length + m ≤ 70368744177664) (hbase : base ≤ w.heap.size)
    (h : ∀ v' w', Own base w' v' (bs ++ ns) → w.grownBy w' v.ownBlock → wpList P ops Q rest (a.put o.dst v') w') : wpList P ops Q (o :: rest) a w := by
  refine wpList_plain hgd fun K hK => ?_
  obtain ⟨v', w', hr, h2, h3⟩ := run_append_B (P := P) w base t o.type ht hi v bs hown ao m c ns hsrc hsz hbase
  unfold Oper.wp execOp
  simp only [ho, resolve, invoke, builtin, Sem.run_bind, Sem.run_pure, Result.andThen_ok, List.map_toArray, List.map_cons, List.map_nil, hs, hx, hr]
  exact hK _ _ (h v' w' h2 h3)

/-- What an append leaves of the rest: below base, and all that is not the row. -/
theorem Own.below {base : Nat} {w0 w w' : World} {v : Value} {bs : List Int} (h : Own base w v bs) (hg : w.grownBy w' v.ownBlock) (hb : Below base w0 w) (hs : base ≤ w.heap.size) : Below base w0 w' :=
  hb.grown hg hs (fun k hk => (World.ownsRow.lt h k hk).1)

/-- 'out = append(out, x, ..)': the new bytes are built on the spot (a new block), then appended. -/
theorem wpList_append_lit {P : Program} (w : World) {ops : Array Oper} {rest : List Oper} {o : Oper} {a : Act} {Q : Exit → Act → World → Prop} (hgd : o.guard = none) (s x : Operand) (t : TypeId)
    (ho : o.op = .call { callee := .builtin .append, args := #[s, x], argTypes := #[t, t] })
    (base : Nat) (ht : P.underlying t = some (.slice 5)) (hi : (P.info? 5).map (fun i => (i.zero, i.size, i.bytes)) = some (some (.int .u8 0), 1, 1))
    (v : Value) (bs ns : List Int) (m : Nat) (cur : Array Value) (w0 : World) (hs : a.eval s = v) (hx : a.eval x = .slice (some ⟨w.heap.size, 0, none⟩) m m)
    (hcur : cur.toList = cellsB ns) (hm : ns.length = m) (hown : Own base w v bs) (hb : Below base w0 w) (hsz : bs.length + m ≤ 70368744177664) (hbase : base ≤ w.heap.size)
    (h : ∀ v' w', Own base w' v' (bs ++ ns) → Below base w0 w' → base ≤ w'.heap.size → wpList P ops Q rest (a.put o.dst v') w') : wpList P ops Q (o :: rest) a (w.alloc (.cells cur 5)) := by
  have hsz1 : (w.alloc (.cells cur 5)).heap.size = w.heap.size + 1 := by simp
  refine wpList_append_B (w.alloc (.cells cur 5)) hgd s x t ho base ht hi v bs _ m m ns hs hx (hown.alloc _) (SrcB.built w cur 5 (0, 0) ns m m hcur hm) hsz (by omega) (fun v' w' h1 h2 => ?_)
  have h3 : Below base w0 w' := (hown.alloc (.cells cur 5)).below h2 (hb.alloc hbase _) (by omega)
  exact h v' w' h1 h3 (by have := h2.size; omega)

/-- 'out = append(out, xs...)' from a slice that lies there. -/
theorem wpList_append_rd {P : Program} (w : World) {ops : Array Oper} {rest : List Oper} {o : Oper} {a : Act} {Q : Exit → Act → World → Prop} (hgd : o.guard = none) (s x : Operand) (t : TypeId)
    (ho : o.op = .call { callee := .builtin .append, args := #[s, x], argTypes := #[t, t] })
    (base : Nat) (ht : P.underlying t = some (.slice 5)) (hi : (P.info? 5).map (fun i => (i.zero, i.size, i.bytes)) = some (some (.int .u8 0), 1, 1))
    (v : Value) (bs ns : List Int) (ao : Option Addr) (m c B : Nat) (w0 : World) (hs : a.eval s = v) (hx : a.eval x = .slice ao m c)
    (hrd : Rd w B ao c ns) (hm : ns.length = m) (hown : Own base w v bs) (hb : Below base w0 w) (hsz : bs.length + m ≤ 70368744177664) (hbase : base ≤ w.heap.size)
    (h : ∀ v' w', Own base w' v' (bs ++ ns) → Below base w0 w' → base ≤ w'.heap.size → wpList P ops Q rest (a.put o.dst v') w') : wpList P ops Q (o :: rest) a w := by
  subst hm
  refine wpList_append_B w hgd s x t ho base ht hi v bs ao _ c ns hs hx hown hrd.src hsz hbase (fun v' w' h1 h2 => ?_)
  exact h v' w' h1 (hown.below h2 hb hbase) (by have := h2.size; omega)

end Go.Zq
