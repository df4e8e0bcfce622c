import Derived.Test.Qxb6002687aO1
namespace Go.Proofs.Qxb6002687a
set_option linter.unusedVariables false
set_option linter.unusedSimpArgs false
open Go.RowKit Go.Zq Go.Zp

/-- A slice of byte slices: the i-th reads as N i. -/
structure Sl (w : World) (B : Nat) (a : Option Addr) (n : Nat) (N : Nat → List Int) : Prop where
  mem : ∃ b o, (0 < n → a = some ⟨b, o, none⟩) ∧ ∀ i, i < n → b < B ∧ ∃ a' c', w.cell? ⟨b, o + i, none⟩ = some (.slice a' (N i).length c') ∧ Rd w B a' c' (N i)

theorem Sl.step {w w' : World} {a : Option Addr} {n : Nat} {N : Nat → List Int} (h : Sl w w.heap.size a n N) (hb : Below w.heap.size w w') : Sl w' w'.heap.size a n N := by
  obtain ⟨b, o, h1, h2⟩ := h.mem
  refine ⟨b, o, h1, fun i hi => ?_⟩
  obtain ⟨h3, a', c', h4, h5⟩ := h2 i hi
  exact ⟨Nat.lt_of_lt_of_le h3 hb.size, a', c', (hb.cell (p := ⟨b, o + i, none⟩) h3).trans h4, h5.step hb⟩

/-- The row of members, the first k laid. -/
structure MsP (w0 w : World) (n k : Nat) (N V : Nat → List Int) : Prop where
  mem : ∀ i, i < k → ∃ a c a' c', w.cell? ⟨w0.heap.size, i * 4, none⟩ = some (.slice a (N i).length c) ∧ w.cell? ⟨w0.heap.size, i * 4 + 1, none⟩ = some (.slice a (N i).length c) ∧
    w.cell? ⟨w0.heap.size, i * 4 + 2, none⟩ = some (.slice a' (V i).length c') ∧ w.cell? ⟨w0.heap.size, i * 4 + 3, none⟩ = some (.bool false) ∧ Rd w0 w0.heap.size a c (N i) ∧ Rd w0 w0.heap.size a' c' (V i)
  rest : ∀ j, j < n * 4 → ∃ u, w.cell? ⟨w0.heap.size, j, none⟩ = some u
  free : ∀ j, w.frozen? ⟨w0.heap.size, j, none⟩ = false
  below : Below w0.heap.size w0 w
  lt : w0.heap.size < w.heap.size

theorem MsP.ms {w0 w : World} {n : Nat} {N V : Nat → List Int} (h : MsP w0 w n n N V) : Ms w w0.heap.size n N V := by
  refine ⟨fun i hi => ?_, h.lt⟩
  obtain ⟨a, c, a', c', h1, h2, h3, h4, h5, h6⟩ := h.mem i hi
  exact ⟨a, c, a', c', h1, h2, h3, h4, h5.step h.below, h6.step h.below⟩

theorem Try.info54 : (Try.prog.info? 54).map (fun i => (i.zero, i.size, i.bytes)) = some (some (.agg #[.slice none 0 0, .slice none 0 0, .slice none 0 0, .bool false]), 4, 80) := by kernel_rfl

theorem cs_other {w : World} {a b : Addr} {v : Value} (h : a ≠ b) : (w.setCell a v).cell? b = w.cell? b := World.cell?_setCell_other _ _ _ _ h
theorem cs_same {w : World} {a : Addr} {v u : Value} (h : w.cell? a = some u) : (w.setCell a v).cell? a = some v := World.cell?_setCell_same _ _ _ h
/-- four stores into one block -/
def st4 (w : World) (H k : Nat) (x0 x1 x2 x3 : Value) : World :=
  (((w.setCell ⟨H, k * 4, none⟩ x0).setCell ⟨H, k * 4 + 1, none⟩ x1).setCell ⟨H, k * 4 + 2, none⟩ x2).setCell ⟨H, k * 4 + 3, none⟩ x3

theorem st4_other {w : World} {H k : Nat} {x0 x1 x2 x3 : Value} {p : Addr} (h : p.block ≠ H ∨ p.off < k * 4 ∨ k * 4 + 4 ≤ p.off) : (st4 w H k x0 x1 x2 x3).cell? p = w.cell? p := by
  have ne : ∀ t, t < 4 → (⟨H, k * 4 + t, none⟩ : Addr) ≠ p := by
    intro t ht e
    subst e
    simp only at h
    omega
  unfold st4
  rw [cs_other (ne 3 (by omega)), cs_other (ne 2 (by omega)), cs_other (ne 1 (by omega)), cs_other (by simpa using ne 0 (by omega))]

theorem st4_at {w : World} {H k : Nat} {x0 x1 x2 x3 u0 u1 u2 u3 : Value} (h0 : w.cell? ⟨H, k * 4, none⟩ = some u0) (h1 : w.cell? ⟨H, k * 4 + 1, none⟩ = some u1) (h2 : w.cell? ⟨H, k * 4 + 2, none⟩ = some u2) (h3 : w.cell? ⟨H, k * 4 + 3, none⟩ = some u3) :
    (st4 w H k x0 x1 x2 x3).cell? ⟨H, k * 4, none⟩ = some x0 ∧ (st4 w H k x0 x1 x2 x3).cell? ⟨H, k * 4 + 1, none⟩ = some x1 ∧ (st4 w H k x0 x1 x2 x3).cell? ⟨H, k * 4 + 2, none⟩ = some x2 ∧ (st4 w H k x0 x1 x2 x3).cell? ⟨H, k * 4 + 3, none⟩ = some x3 := by
  have ne : ∀ s t : Nat, s ≠ t → (⟨H, s, none⟩ : Addr) ≠ ⟨H, t, none⟩ := fun s t h e => h (by cases e; rfl)
  have a1 : (w.setCell ⟨H, k * 4, none⟩ x0).cell? ⟨H, k * 4 + 1, none⟩ = some u1 := by rw [cs_other (by intro e; injection e with _ e; omega)]; exact h1
  have a2 : ((w.setCell ⟨H, k * 4, none⟩ x0).setCell ⟨H, k * 4 + 1, none⟩ x1).cell? ⟨H, k * 4 + 2, none⟩ = some u2 := by rw [cs_other (by intro e; injection e with _ e; omega), cs_other (by intro e; injection e with _ e; omega)]; exact h2
  have a3 : (((w.setCell ⟨H, k * 4, none⟩ x0).setCell ⟨H, k * 4 + 1, none⟩ x1).setCell ⟨H, k * 4 + 2, none⟩ x2).cell? ⟨H, k * 4 + 3, none⟩ = some u3 := by
    rw [cs_other (by intro e; injection e with _ e; omega), cs_other (by intro e; injection e with _ e; omega), cs_other (by intro e; injection e with _ e; omega)]; exact h3
  unfold st4
  refine ⟨?_, ?_, ?_, cs_same a3⟩
  · rw [cs_other (by intro e; injection e with _ e; omega), cs_other (by intro e; injection e with _ e; omega), cs_other (by intro e; injection e with _ e; omega)]; exact cs_same h0
  · rw [cs_other (by intro e; injection e with _ e; omega), cs_other (by intro e; injection e with _ e; omega)]; exact cs_same a1
  · rw [cs_other (by intro e; injection e with _ e; omega)]; exact cs_same a2

theorem st4_some {w : World} {H k : Nat} {x0 x1 x2 x3 u0 u1 u2 u3 : Value} (h0 : w.cell? ⟨H, k * 4, none⟩ = some u0) (h1 : w.cell? ⟨H, k * 4 + 1, none⟩ = some u1) (h2 : w.cell? ⟨H, k * 4 + 2, none⟩ = some u2) (h3 : w.cell? ⟨H, k * 4 + 3, none⟩ = some u3)
    {j : Nat} (hj : ∃ u, w.cell? ⟨H, j, none⟩ = some u) : ∃ u, (st4 w H k x0 x1 x2 x3).cell? ⟨H, j, none⟩ = some u := by
  have h := st4_at (x0 := x0) (x1 := x1) (x2 := x2) (x3 := x3) h0 h1 h2 h3
  by_cases e0 : j = k * 4
  · subst e0; exact ⟨_, h.1⟩
  by_cases e1 : j = k * 4 + 1
  · subst e1; exact ⟨_, h.2.1⟩
  by_cases e2 : j = k * 4 + 2
  · subst e2; exact ⟨_, h.2.2.1⟩
  by_cases e3 : j = k * 4 + 3
  · subst e3; exact ⟨_, h.2.2.2⟩
  rw [st4_other (.inr (by simp only; omega))]; exact hj

theorem MsP.put {w0 w : World} {n k : Nat} {N V : Nat → List Int} (h : MsP w0 w n k N V) (hk : k < n) {a a' : Option Addr} {c c' : Nat} (h5 : Rd w0 w0.heap.size a c (N k)) (h6 : Rd w0 w0.heap.size a' c' (V k)) :
    MsP w0 (st4 w w0.heap.size k (.slice a (N k).length c) (.slice a (N k).length c) (.slice a' (V k).length c') (.bool false)) n (k + 1) N V := by
  obtain ⟨u0, d0⟩ := h.rest (k * 4) (by omega)
  obtain ⟨u1, d1⟩ := h.rest (k * 4 + 1) (by omega)
  obtain ⟨u2, d2⟩ := h.rest (k * 4 + 2) (by omega)
  obtain ⟨u3, d3⟩ := h.rest (k * 4 + 3) (by omega)
  refine ⟨fun i hi => ?_, fun j hj => st4_some d0 d1 d2 d3 (h.rest j hj), fun j => ?_, ?_, ?_⟩
  · by_cases e : i = k
    · subst e
      obtain ⟨g0, g1, g2, g3⟩ := st4_at (x0 := .slice a (N i).length c) (x1 := .slice a (N i).length c) (x2 := .slice a' (V i).length c') (x3 := .bool false) d0 d1 d2 d3
      exact ⟨a, c, a', c', g0, g1, g2, g3, h5, h6⟩
    · obtain ⟨b1, b2, b3, b4, g0, g1, g2, g3, g5, g6⟩ := h.mem i (by omega)
      refine ⟨b1, b2, b3, b4, ?_, ?_, ?_, ?_, g5, g6⟩
      · rw [st4_other (.inr (by simp only; omega))]; exact g0
      · rw [st4_other (.inr (by simp only; omega))]; exact g1
      · rw [st4_other (.inr (by simp only; omega))]; exact g2
      · rw [st4_other (.inr (by simp only; omega))]; exact g3
  · unfold st4
    rw [World.frozen?_setCell, World.frozen?_setCell, World.frozen?_setCell, World.frozen?_setCell]; exact h.free j
  · exact (((h.below.setCell (p := ⟨w0.heap.size, k * 4, none⟩) (Nat.le_refl _) _).setCell (p := ⟨w0.heap.size, k * 4 + 1, none⟩) (Nat.le_refl _) _).setCell (p := ⟨w0.heap.size, k * 4 + 2, none⟩) (Nat.le_refl _) _).setCell (p := ⟨w0.heap.size, k * 4 + 3, none⟩) (Nat.le_refl _) _
  · unfold st4
    simp only [World.size_setCell]; exact h.lt

theorem MsP.drew {w0 w : World} {n k : Nat} {N V : Nat → List Int} (h : MsP w0 w n k N V) : MsP w0 w.drew n k N V := ⟨h.mem, h.rest, h.free, h.below.drew, h.lt⟩

attribute [local go_sem ↓] Go.wp_at_zero Go.wp_at_succ

set_option maxHeartbeats 1000000 in
theorem zzobj_any (a a' : Option Addr) (n c c' : Nat) (N V : Nat → List Int) (w : World) (hN : Sl w w.heap.size a n N) (hV : Sl w w.heap.size a' n V) (hn : n ≤ 1024) (hsz : szK N V n ≤ 1000000000) :
    Calls Try.prog 21 #[.slice a n c, .slice a' n c'] w fun e w' => ∃ v', e = .returned v' ∧ Own w.heap.size w' v' (objK N V n ++ [125]) ∧ Below w.heap.size w w' := by
  have HN := hide hN
  have HV := hide hV
  clear hN hV
  obtain ⟨i0, hi, hz0, hz1, hz2⟩ := info_parts Try.info54
  go_enter Try.func21, Try.ntmps21
  go_wp2_with (first
    | (at_make; refine wpList_make_full _ rfl _ _ 52 rfl w.heap.size 54 i0 (.agg #[.slice none 0 0, .slice none 0 0, .slice none 0 0, .bool false]) 4 Try.underlying52 hi hz0 hz1 _ _ _ _ n rfl rfl rfl rfl (by rw [hz2]; omega) (by unfold maxLen; omega) (Nat.le_refl _) ?_; intro w1 hown1 hg1))
  have hM0 : MsP w w1 n 0 N V := by
    rcases hown1.2 with ⟨h, _⟩ | ⟨g', cap', cur, hv, hb, hg, hnc, hm, hcs, _⟩
    · simp at h
    · simp only [Value.slice.injEq, Option.some.injEq, Addr.mk.injEq, and_true, true_and] at hv
      obtain ⟨rfl, rfl⟩ := hv
      refine ⟨fun i hi => by omega, fun j hj => ?_, fun j => by simp [World.frozen?, hg], (Below.refl _ _).grown hg1 (Nat.le_refl _) (by simp), (Array.getElem?_eq_some_iff.1 hg).1⟩
      have hj' : j < cur.size := by omega
      exact ⟨cur[j], by rw [cell_of_row w1 w.heap.size j cur 54 (0, 0) hg]; simp [hj']⟩
  clear hown1 hg1
  go_loopg [12] n (fun g i wr => ∃ k : Nat, k ≤ n ∧ g = n - k ∧ i = .int .i64 k ∧ MsP w wr n k N V)
  case atStart => exact ⟨0, Nat.zero_le _, rfl, rfl, hM0⟩
  case round =>
    clear hM0
    obtain ⟨k, hk, rfl, rfl, hM⟩ := hrel
    by_cases hlt : k < n
    · obtain ⟨b, o, ha, hmN⟩ := (unhide HN).mem
      obtain ⟨b', o', ha', hmV⟩ := (unhide HV).mem
      obtain ⟨hb, e1, e2, e3, e4⟩ := hmN k hlt
      obtain ⟨hb', f1, f2, f3, f4⟩ := hmV k hlt
      obtain rfl := ha (by omega)
      obtain rfl := ha' (by omega)
      have c1 := (hM.below.cell (p := ⟨b, o + k, none⟩) hb).trans e3
      have c2 := (hM.below.cell (p := ⟨b', o' + k, none⟩) hb').trans f3
      obtain ⟨u0, d0⟩ := hM.rest (k * 4) (by omega)
      obtain ⟨u1, d1⟩ := hM.rest (k * 4 + 1) (by omega)
      obtain ⟨u2, d2⟩ := hM.rest (k * 4 + 2) (by omega)
      obtain ⟨u3, d3⟩ := hM.rest (k * 4 + 3) (by omega)
      have g0 := hM.free (k * 4)
      have g1 := hM.free (k * 4 + 1)
      have g2 := hM.free (k * 4 + 2)
      have g3 := hM.free (k * 4 + 3)
      have hk0 : (0 : Int) ≤ (k : Int) := by omega
      have hk1 : (k : Int) < (n : Int) := by omega
      clear ha ha' hmN hmV e3 f3
      go_wp2
      have n1 : ¬ (w.heap.size = b) := by omega
      have n2 : ¬ (b = w.heap.size) := by omega
      have n3 : ¬ (w.heap.size = b') := by omega
      have n4 : ¬ (b' = w.heap.size) := by omega
      go_region_held3 (fun w' => w'.cell? ⟨b, o + k, none⟩ = some (.slice e1 (N k).length e2) ∧ w'.cell? ⟨b', o' + k, none⟩ = some (.slice f1 (V k).length f2))
        (go_keep) (fail)
      go_wp2
      have hput := (hM.put hlt e4 f4).drew
      unfold st4 at hput
      go_roundg (n - (k + 1))
      case measure => omega
      case rel => exact ⟨k + 1, by omega, rfl, by go_num, hput⟩
    · have ek : k = n := by omega
      have hm : MsP w wr n n N V := ek ▸ hM
      have HMM := hide hm
      clear hm ek
      go_wp2_with (go_at_call 29; refine (obj_any w.heap.size n N V _ (unhide HMM).ms hn hsz).mono ?_; rintro e w2 ⟨v2, rfl, hown2, hbel2⟩)
      go_ret
      have hm := unhide HMM
      exact ⟨_, rfl, hown2.mono hm.below.size, hm.below.trans (hbel2.mono hm.below.size)⟩

end Go.Proofs.Qxb6002687a
