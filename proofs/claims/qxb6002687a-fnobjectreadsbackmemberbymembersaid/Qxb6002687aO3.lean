import Derived.Test.Qxb6002687aO2
import Derived.Test.Qxb6002687aPlain6
namespace Go.Proofs.Qxb6002687a
set_option linter.unusedVariables false
set_option linter.unusedSimpArgs false
open Go.RowKit Go.Zq Go.Zp

/-- ZZValue at place p, where an encoded string lies. -/
theorem zz_str (w : World) (a : Option Addr) (n cap p m : Nat) (bs X R : List Int) (hr : Rd w w.heap.size a cap bs) (hn : bs.length = n)
    (hl : n ≤ 1000000000000) (hd : bs.drop p = X ++ R) (hX : Str X) (hm : X.length = m) :
    Calls Try.prog 14 #[.slice a n cap, .int .i64 (p : Int)] w fun e w' => ∃ a' cap', e = .returned (.tuple #[.slice a' m cap', .int .i64 ((p : Int) + (m : Int))]) ∧ Rd w' w'.heap.size a' cap' X ∧ Below w.heap.size w w' := by
  obtain ⟨t, k, ht, hs, hk⟩ := hX.scan R
  have hlen : p + m + R.length = n := by
    have := congrArg List.length hd
    have hp : p ≤ bs.length := by
      rcases Nat.lt_or_ge bs.length p with h | h
      · rw [List.drop_eq_nil_of_le (by omega), ht] at hd; simp at hd
      · exact h
    simp at this; omega
  have hb : bat bs p = 34 := by
    have := bat_drop bs p [] 34 (t ++ R) (by rw [hd, ht]; rfl)
    simpa using this
  have hdt : bs.drop (p + 1) = t ++ R := by
    have := drop_more bs p [] (t ++ R) 34 (by rw [hd, ht]; rfl)
    simpa using this
  obtain ⟨b, o, rfl⟩ := hr.head (by omega)
  refine (zz_of w (some ⟨b, o, none⟩) n cap p (p + 1 + k) (.slice (some ⟨b, o + p, none⟩) (1 + k) (cap - p)) (fun w1 hS => value_str w w1 w.heap.size b o n cap p p k bs hS hr hn hl (Nat.le_refl _) (by omega) (fun i h1 h2 => by omega) hb (by rw [hdt]; exact hs) (by omega))).mono ?_
  rintro e w' ⟨rfl, hB⟩
  have hsub := hr.sub p m (by omega)
  rw [hd, ← hm, List.take_left] at hsub
  refine ⟨_, _, ?_, hsub.step hB, hB⟩
  rw [show 1 + k = m by omega, show ((p + 1 + k : Nat) : Int) = (p : Int) + (m : Int) by omega]

/-- ZZValue at place p, where a value lies and a delimiter behind it. -/
theorem zz_val (w : World) (a : Option Addr) (n cap p m : Nat) (bs X R : List Int) (d : Int) (hr : Rd w w.heap.size a cap bs) (hn : bs.length = n)
    (hl : n ≤ 1000000000000) (hd : bs.drop p = X ++ d :: R) (hX : Val X) (hdl : d = 44 ∨ d = 93 ∨ d = 125) (hm : X.length = m) :
    Calls Try.prog 14 #[.slice a n cap, .int .i64 (p : Int)] w fun e w' => ∃ a' cap', e = .returned (.tuple #[.slice a' m cap', .int .i64 ((p : Int) + (m : Int))]) ∧ Rd w' w'.heap.size a' cap' X ∧ Below w.heap.size w w' := by
  rcases hX with hX | hX | hX
  · exact zz_str w a n cap p m bs X (d :: R) hr hn hl hd hX hm
  · have hh := hX.head
    have hp : p ≤ bs.length := by
      rcases Nat.lt_or_ge bs.length p with h | h
      · rw [List.drop_eq_nil_of_le (by omega)] at hd; simp at hd
      · exact h
    have hlen : p + m + R.length + 1 = n := by
      have := congrArg List.length hd
      simp at this; omega
    have hb : bat bs p = bat X 0 := by
      have e1 : bat (bs.drop p) 0 = bat X 0 := by rw [hd]; exact bat_append_left X _ 0 hh.1
      unfold bat at e1 ⊢
      rw [List.getD_eq_getElem?_getD, List.getElem?_drop] at e1
      rw [List.getD_eq_getElem?_getD]; exact e1
    obtain ⟨b, o, rfl⟩ := hr.head (by omega)
    refine (zz_of w (some ⟨b, o, none⟩) n cap p (p + m) (.slice (some ⟨b, o + p, none⟩) m (cap - p)) (fun w1 hS => value_nest w w1 w.heap.size b o n cap p p m bs hS hr hn hl (Nat.le_refl _) (fun i h1 h2 => by omega) (by rw [hb]; exact hh.2) (by rw [hd, hX.scan, hm]))).mono ?_
    rintro e w' ⟨rfl, hB⟩
    have hsub := hr.sub p m (by omega)
    rw [hd, ← hm, List.take_left] at hsub
    refine ⟨_, _, ?_, hsub.step hB, hB⟩
    rw [show ((p + m : Nat) : Int) = (p : Int) + (m : Int) by omega]
  · obtain ⟨h0, hall⟩ := hX
    have hp : p ≤ bs.length := by
      rcases Nat.lt_or_ge bs.length p with h | h
      · rw [List.drop_eq_nil_of_le (by omega)] at hd; simp at hd
      · exact h
    have hlen : p + m + R.length + 1 = n := by
      have := congrArg List.length hd
      simp at this; omega
    have hdel := bat_drop bs p X d R hd
    have hnum : ∀ i, p ≤ i → i < p + m → 45 ≤ bat bs i ∧ bat bs i ≤ 57 := by
      intro i h1 h2
      have e1 : bat (bs.drop p) (i - p) = bat X (i - p) := by rw [hd]; exact bat_append_left X _ _ (by omega)
      have e2 : bat (bs.drop p) (i - p) = bat bs i := by
        unfold bat
        rw [List.getD_eq_getElem?_getD, List.getElem?_drop, List.getD_eq_getElem?_getD, show p + (i - p) = i by omega]
      rw [← e2, e1]
      have hi : i - p < X.length := by omega
      have e3 : bat X (i - p) = X[i - p] := by unfold bat; simp [hi]
      rw [e3]
      exact hall _ (List.getElem_mem _)
    obtain ⟨b, o, rfl⟩ := hr.head (by omega)
    refine (zz_of w (some ⟨b, o, none⟩) n cap p (p + m) (.slice (some ⟨b, o + p, none⟩) m (cap - p)) (fun w1 hS => value_num w w1 w.heap.size b o n cap p m bs hS hr hn hl (by omega) (by omega) hnum (by rw [← hm, hdel]; exact hdl))).mono ?_
    rintro e w' ⟨rfl, hB⟩
    have hsub := hr.sub p m (by omega)
    rw [hd, ← hm, List.take_left] at hsub
    refine ⟨_, _, ?_, hsub.step hB, hB⟩
    rw [show ((p + m : Nat) : Int) = (p : Int) + (m : Int) by omega]

/-- A row of byte slices that the call makes; the first k are laid; all that they lead to lies from L on. -/
structure Arr (w : World) (H L n k : Nat) (N : Nat → List Int) : Prop where
  mem : ∀ i, i < k → ∃ v, w.cell? ⟨H, i, none⟩ = some v ∧ Own L w v (N i)
  rest : ∀ j, j < n → ∃ u, w.cell? ⟨H, j, none⟩ = some u
  free : ∀ j, w.frozen? ⟨H, j, none⟩ = false
  lt : H < L
  le : L ≤ w.heap.size

theorem Arr.later {w w' : World} {H L n k : Nat} {N : Nat → List Int} (h : Arr w H L n k N) (hb : Below w.heap.size w w') : Arr w' H L n k N := by
  have hlt : H < w.heap.size := Nat.lt_of_lt_of_le h.lt h.le
  refine ⟨fun i hi => ?_, fun j hj => ?_, fun j => (hb.frozen (p := ⟨H, j, none⟩) hlt).trans (h.free j), h.lt, Nat.le_trans h.le hb.size⟩
  · obtain ⟨v, h1, h2⟩ := h.mem i hi
    exact ⟨v, (hb.cell (p := ⟨H, i, none⟩) hlt).trans h1, h2.later hb⟩
  · obtain ⟨u, hu⟩ := h.rest j hj
    exact ⟨u, (hb.cell (p := ⟨H, j, none⟩) hlt).trans hu⟩

theorem own_setBelow {base : Nat} {w : World} {v : Value} {bs : List Int} (h : Own base w v bs) {a : Addr} (ha : a.block < base) (u : Value) : Own base (w.setCell a u) v bs := ownsRow_setCell_below h ha u

theorem Arr.other {w : World} {H L n k : Nat} {N : Nat → List Int} (h : Arr w H L n k N) (H' j : Nat) (hne : H' ≠ H) (hlt : H' < L) (u : Value) : Arr (w.setCell ⟨H', j, none⟩ u) H L n k N := by
  have ne : ∀ i, (⟨H', j, none⟩ : Addr) ≠ ⟨H, i, none⟩ := fun i e => hne (by injection e)
  refine ⟨fun i hi => ?_, fun i hi => ?_, fun i => by rw [World.frozen?_setCell]; exact h.free i, h.lt, by rw [World.size_setCell]; exact h.le⟩
  · obtain ⟨v, h1, h2⟩ := h.mem i hi
    exact ⟨v, by rw [cs_other (ne i)]; exact h1, own_setBelow h2 hlt u⟩
  · obtain ⟨v, h1⟩ := h.rest i hi
    exact ⟨v, by rw [cs_other (ne i)]; exact h1⟩

theorem Arr.put {w : World} {H L n k : Nat} {N : Nat → List Int} (h : Arr w H L n k N) (hk : k < n) {v : Value} (N' : Nat → List Int) (hN : ∀ i, i < k → N' i = N i) (hv : Own L w v (N' k)) : Arr (w.setCell ⟨H, k, none⟩ v) H L n (k + 1) N' := by
  have ne : ∀ i, k ≠ i → (⟨H, k, none⟩ : Addr) ≠ ⟨H, i, none⟩ := fun i hi e => hi (by injection e)
  obtain ⟨u, hu⟩ := h.rest k hk
  refine ⟨fun i hi => ?_, fun i hi => ?_, fun i => by rw [World.frozen?_setCell]; exact h.free i, h.lt, by rw [World.size_setCell]; exact h.le⟩
  · by_cases e : i = k
    · subst e; exact ⟨v, cs_same hu, own_setBelow hv h.lt _⟩
    · obtain ⟨v', h1, h2⟩ := h.mem i (by omega)
      exact ⟨v', by rw [cs_other (ne i (by omega))]; exact h1, own_setBelow (by rw [hN i (by omega)]; exact h2) h.lt _⟩
  · by_cases e : i = k
    · subst e; exact ⟨v, cs_same hu⟩
    · obtain ⟨v', h1⟩ := h.rest i hi
      exact ⟨v', by rw [cs_other (ne i (by omega))]; exact h1⟩

theorem Arr.sl {w : World} {H L n : Nat} {N : Nat → List Int} (h : Arr w H L n n N) : Sl w w.heap.size (some ⟨H, 0, none⟩) n N := by
  refine ⟨H, 0, fun _ => rfl, fun i hi => ?_⟩
  obtain ⟨v, h1, h2⟩ := h.mem i hi
  obtain ⟨a, c, rfl, hr⟩ := h2.rd
  exact ⟨Nat.lt_of_lt_of_le h.lt h.le, a, c, by rw [Nat.zero_add]; exact h1, hr⟩

theorem Arr.rd {w : World} {H L n k : Nat} {N : Nat → List Int} (h : Arr w H L n k N) {i : Nat} (hi : i < k) : ∃ a c, w.cell? ⟨H, i, none⟩ = some (.slice a (N i).length c) ∧ Rd w w.heap.size a c (N i) := by
  obtain ⟨v, h1, h2⟩ := h.mem i hi
  obtain ⟨a, c, rfl, hr⟩ := h2.rd
  exact ⟨a, c, h1, hr⟩

end Go.Proofs.Qxb6002687a
