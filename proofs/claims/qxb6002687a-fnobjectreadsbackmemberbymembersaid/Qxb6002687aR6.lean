import Derived.Test.Qxb6002687aR5
namespace Go.Proofs.Qxb6002687a
set_option linter.unusedVariables false
set_option linter.unusedSimpArgs false
open Go.RowKit Go.Zq Go.Zp

theorem Sr.make (w : World) (d : Value) (p : Nat) : Sr w w.heap.size d p (w.alloc (.cells #[d, .int .i64 p] 50)) :=
  ⟨(Below.refl _ _).alloc (Nat.le_refl _) _, heap_alloc_new w _⟩

set_option maxHeartbeats 2000000 in
theorem zz_of (w : World) (a : Option Addr) (n cap p q : Nat) (res : Value)
    (hv : ∀ w1, Sr w w.heap.size (.slice a n cap) p w1 → Calls Try.prog 28 #[.pointer (some ⟨w.heap.size, 0, none⟩)] w1 fun e w' => e = .returned res ∧ Sr w w.heap.size (.slice a n cap) q w') :
    Calls Try.prog 14 #[.slice a n cap, .int .i64 p] w fun e w' => e = .returned (.tuple #[res, .int .i64 q]) ∧ Below w.heap.size w w' := by
  have HV := hide hv
  clear hv
  have hS := Sr.make w (.slice a n cap) p
  go_enter Try.func14, Try.ntmps14
  go_wp2_with (go_at_call 28; refine (unhide HV _ hS).mono ?_; rintro e w1 ⟨rfl, hS1⟩; have c1 := hS1.c1)
  go_quiet (fail)
  go_wp2
  go_ret2
  exact ⟨rfl, (hS1.drewN _).below⟩

/-- A part of a slice reads as that part of its bytes. -/
theorem _root_.Go.Zq.Rd.sub {w : World} {B b o cap : Nat} {bs : List Int} (h : Rd w B (some ⟨b, o, none⟩) cap bs) (q m : Nat) (hqm : q + m ≤ bs.length) :
    Rd w B (some ⟨b, o + q, none⟩) (cap - q) ((bs.drop q).take m) := by
  have hl : ((bs.drop q).take m).length = m := by simp; omega
  refine ⟨by have := h.le; omega, by have := h.max; omega, by simp, ?_⟩
  rcases h.cells with h0 | ⟨b', o', he, hlt, hc⟩
  · exact .inl (by omega)
  · cases he
    refine .inr ⟨b, o + q, rfl, hlt, fun i hi => ?_⟩
    rw [Nat.add_assoc, hc (q + i) (by omega)]
    have : bat ((bs.drop q).take m) i = bat bs (q + i) := by
      unfold bat
      simp only [List.getD_eq_getElem?_getD]
      rw [List.getElem?_take, if_pos (by omega), List.getElem?_drop]
    rw [this]

theorem _root_.Go.Zq.Rd.head {w : World} {B cap : Nat} {a : Option Addr} {bs : List Int} (h : Rd w B a cap bs) (h0 : 0 < bs.length) : ∃ b o, a = some ⟨b, o, none⟩ := by
  rcases h.cells with h1 | ⟨b, o, rfl, _⟩
  · omega
  · exact ⟨b, o, rfl⟩

theorem zz_nest (w : World) (a : Option Addr) (n cap q m : Nat) (bs : List Int) (hr : Rd w w.heap.size a cap bs) (hn : bs.length = n)
    (hl : n ≤ 1000000000000) (hws : ∀ i, i < q → isWs (bat bs i)) (hc : bat bs q = 123 ∨ bat bs q = 91) (hm : scan (bs.drop q) 0 0 = some m) (hqm : q + m ≤ n) :
    Calls Try.prog 14 #[.slice a n cap, .int .i64 (0 : Nat)] w fun e w' => ∃ a' cap', e = .returned (.tuple #[.slice a' m cap', .int .i64 ((q + m : Nat) : Int)]) ∧ Rd w w.heap.size a' cap' ((bs.drop q).take m) ∧ Below w.heap.size w w' := by
  have hq := scan_lt bs q m 0 0 hm
  obtain ⟨b, o, rfl⟩ := hr.head (by omega)
  refine (zz_of w (some ⟨b, o, none⟩) n cap 0 (q + m) (.slice (some ⟨b, o + q, none⟩) m (cap - q)) (fun w1 hS => value_nest w w1 w.heap.size b o n cap 0 q m bs hS hr hn hl (by omega) (fun i _ h => hws i h) hc hm)).mono ?_
  rintro e w' ⟨rfl, hb⟩
  exact ⟨_, _, rfl, hr.sub q m (by omega), hb⟩

/-- zzEq on two readings of the same bytes. -/
theorem eq_any (a1 a2 : Option Addr) (n c1 c2 B1 B2 : Nat) (bs : List Int) (w : World) (h1 : Rd w B1 a1 c1 bs) (h2 : Rd w B2 a2 c2 bs) (hn : bs.length = n) :
    Calls Try.prog 15 #[.slice a1 n c1, .slice a2 n c2] w fun e w' => e = .returned (.bool true) ∧ ∃ n, w' = w.drewN n := by
  subst hn
  by_cases h0 : bs.length = 0
  · rw [h0]
    refine (eq_nil a1 a2 c1 c2 w).mono ?_
    rintro e w' ⟨rfl, rfl⟩
    exact ⟨rfl, 0, rfl⟩
  · rcases h1.cells with h | ⟨b, o, rfl, _, hc⟩
    · omega
    rcases h2.cells with h | ⟨b2, o2, rfl, _, hc2⟩
    · omega
    exact eq_some b o b2 o2 c1 c2 bs w (by have := h1.le; have := h1.max; omega) hc hc2

end Go.Proofs.Qxb6002687a
