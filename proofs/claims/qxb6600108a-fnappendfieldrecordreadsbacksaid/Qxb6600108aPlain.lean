/- Plain lists of bytes: no Go in here. -/
namespace Go.Zp
set_option linter.unusedVariables false
set_option linter.unusedSimpArgs false

/-- The byte at place k (0 beyond the end). -/
def bat (bs : List Int) (k : Nat) : Int := bs.getD k 0

theorem bat_append_left (a b : List Int) (i : Nat) (h : i < a.length) : bat (a ++ b) i = bat a i := by
  unfold bat; simp [List.getElem?_append_left h]
theorem bat_append_right (a b : List Int) (i : Nat) : bat (a ++ b) (a.length + i) = bat b i := by
  unfold bat; simp [List.getElem?_append_right]
theorem bat_drop (bs : List Int) (p i : Nat) : bat (bs.drop p) i = bat bs (p + i) := by
  unfold bat; simp [List.getD_eq_getElem?_getD, List.getElem?_drop]
theorem bat_take (bs : List Int) (p i : Nat) (h : i < p) : bat (bs.take p) i = bat bs i := by
  unfold bat; simp only [List.getD_eq_getElem?_getD]; rw [List.getElem?_take, if_pos h]
theorem bat_mem (bs : List Int) (i : Nat) (h : i < bs.length) : bat bs i ∈ bs := by
  have e : bat bs i = bs[i] := by unfold bat; simp [h]
  rw [e]; exact List.getElem_mem _

/-! ### escapes by a flag, and by the run of backslashes -/
/-- Is the byte at place k escaped? -/
def esc (bs : List Int) : Nat → Bool
  | 0 => false
  | k + 1 => decide (bat bs k = 92) && !esc bs k
/-- How many backslashes stand right before place k. -/
def run (bs : List Int) : Nat → Nat
  | 0 => 0
  | k + 1 => if bat bs k = 92 then run bs k + 1 else 0

theorem esc_succ (bs : List Int) (k : Nat) : esc bs (k + 1) = (decide (bat bs k = 92) && !esc bs k) := rfl
theorem run_succ (bs : List Int) (k : Nat) : run bs (k + 1) = if bat bs k = 92 then run bs k + 1 else 0 := rfl

theorem esc_run (bs : List Int) : ∀ k, esc bs k = true ↔ run bs k % 2 = 1
  | 0 => by simp [esc, run]
  | k + 1 => by
    have ih := esc_run bs k
    by_cases h : bat bs k = 92
    · rw [esc_succ, run_succ, if_pos h, decide_eq_true h]
      cases hh : esc bs k
      · have h1 : ¬ run bs k % 2 = 1 := fun h2 => by rw [ih.2 h2] at hh; cases hh
        simp; omega
      · have h1 := ih.1 hh
        simp; omega
    · rw [esc_succ, run_succ, if_neg h, decide_eq_false h]; simp

theorem esc_same (a b : List Int) (n : Nat) (h : ∀ i, i < n → bat a i = bat b i) : ∀ k, k ≤ n → esc a k = esc b k
  | 0, _ => rfl
  | k + 1, hk => by rw [esc_succ, esc_succ, h k (by omega), esc_same a b n h k (by omega)]

/-- Place q is the first quote that is not escaped. -/
structure Qt (bs : List Int) (q : Nat) : Prop where
  len : q < bs.length
  quote : bat bs q = 34
  free : esc bs q = false
  first : ∀ i, i < q → bat bs i = 34 → esc bs i = true
/-- No quote below n is free. -/
def NoQ (bs : List Int) (n : Nat) : Prop := ∀ i, i < n → bat bs i = 34 → esc bs i = true

theorem qt_or (bs : List Int) : (∃ q, Qt bs q) ∨ NoQ bs bs.length := by
  have key : ∀ n, n ≤ bs.length → (∃ q, Qt bs q) ∨ NoQ bs n := by
    intro n
    induction n with
    | zero => intro _; exact .inr fun i hi => by omega
    | succ n ih =>
      intro hn
      rcases ih (by omega) with h | h
      · exact .inl h
      · by_cases hq : bat bs n = 34
        · cases he : esc bs n
          · exact .inl ⟨n, by omega, hq, he, h⟩
          · refine .inr fun i hi h2 => ?_
            by_cases e : i = n
            · subst e; exact he
            · exact h i (by omega) h2
        · refine .inr fun i hi h2 => ?_
          by_cases e : i = n
          · subst e; exact absurd h2 hq
          · exact h i (by omega) h2
  exact key bs.length (Nat.le_refl _)

theorem Qt.append {a : List Int} {q : Nat} (h : Qt a q) (b : List Int) : Qt (a ++ b) q := by
  have hb : ∀ i, i < a.length → bat (a ++ b) i = bat a i := fun i hi => bat_append_left a b i hi
  have he := esc_same (a ++ b) a a.length hb
  have hl := h.len
  refine ⟨by simp; omega, by rw [hb q hl]; exact h.quote, by rw [he q (by omega)]; exact h.free, fun i hi hq => ?_⟩
  rw [he i (by omega)]
  exact h.first i hi (by rw [← hb i (by omega)]; exact hq)

theorem Qt.take {a : List Int} {q : Nat} (h : Qt a q) : Qt (a.take (q + 1)) q := by
  have hl := h.len
  have hb : ∀ i, i < q + 1 → bat (a.take (q + 1)) i = bat a i := fun i hi => bat_take a (q + 1) i hi
  have he := esc_same (a.take (q + 1)) a (q + 1) hb
  refine ⟨by simp; omega, by rw [hb q (by omega)]; exact h.quote, by rw [he q (by omega)]; exact h.free, fun i hi hq => ?_⟩
  rw [he i (by omega)]
  exact h.first i hi (by rw [← hb i (by omega)]; exact hq)

/-- An end that is found with bytes added, where none was before, lies among those added. -/
theorem Qt.late {a b : List Int} {q : Nat} (h : Qt (a ++ b) q) (hn : NoQ a a.length) : a.length ≤ q := by
  rcases Nat.lt_or_ge q a.length with hq | hq
  · have hb : ∀ i, i < a.length → bat (a ++ b) i = bat a i := fun i hi => bat_append_left a b i hi
    have he := esc_same (a ++ b) a a.length hb
    have h1 := hn q hq (by rw [← hb q hq]; exact h.quote)
    have h2 := h.free
    rw [he q (by omega), h1] at h2; cases h2
  · exact hq

/-! ### an encoder's text -/
def nx (c : Int) (e : Bool) : Bool := decide (c = 92) && !e
def fold (x : List Int) (e : Bool) : Bool := x.foldl (fun e c => nx c e) e
def Free : List Int → Bool → Prop
  | [], _ => True
  | c :: t, e => (c = 34 → e = true) ∧ Free t (nx c e)
/-- A text that is passed over in a string. -/
def Pas (x : List Int) : Prop := fold x false = false ∧ Free x false
theorem Free_append : ∀ (x y : List Int) (e : Bool), Free x e → Free y (fold x e) → Free (x ++ y) e
  | [], y, e, _, h => h
  | c :: t, y, e, h1, h2 => ⟨h1.1, Free_append t y (nx c e) h1.2 h2⟩
theorem Pas.nil : Pas [] := ⟨rfl, trivial⟩
theorem Pas.append {x y : List Int} (hx : Pas x) (hy : Pas y) : Pas (x ++ y) := by
  refine ⟨?_, Free_append x y false hx.2 (by rw [hx.1]; exact hy.2)⟩
  have : fold (x ++ y) false = fold y (fold x false) := by unfold fold; rw [List.foldl_append]
  rw [this, hx.1, hy.1]
theorem Pas.raw {c : Int} (h1 : c ≠ 34) (h2 : c ≠ 92) : Pas [c] := ⟨by simp [fold, nx, h2], ⟨fun h => absurd h h1, trivial⟩⟩
theorem Pas.two (c : Int) : Pas [92, c] := by
  refine ⟨by simp [fold, nx], ⟨by decide, ⟨fun _ => by simp [nx], trivial⟩⟩⟩

theorem esc_fold (x y : List Int) : esc (x ++ y) x.length = fold x false := by
  have key : ∀ k, k ≤ x.length → esc (x ++ y) k = fold (x.take k) false := by
    intro k
    induction k with
    | zero => intro _; rfl
    | succ k ih =>
      intro hk
      have hb : bat (x ++ y) k = bat x k := bat_append_left x y k (by omega)
      have hx : x[k]? = some (bat x k) := by unfold bat; simp [show k < x.length by omega]
      have ht : fold (x.take (k + 1)) false = nx (bat x k) (fold (x.take k) false) := by
        rw [List.take_add_one, hx]
        unfold fold
        rw [List.foldl_append]; rfl
      rw [ht, ← ih (by omega), ← hb]; rfl
  have := key x.length (Nat.le_refl _)
  rw [List.take_length] at this; exact this

theorem Free_at : ∀ (x : List Int) (e : Bool), Free x e → ∀ k, k < x.length → bat x k = 34 → fold (x.take k) e = true
  | [], e, _, k, hk, _ => by simp at hk
  | c :: t, e, h, 0, _, hq => h.1 (by simpa [bat] using hq)
  | c :: t, e, h, k + 1, hk, hq => Free_at t (nx c e) h.2 k (by simpa using hk) (by simpa [bat] using hq)

theorem Qt.of (x y : List Int) (hx : Pas x) : Qt (x ++ 34 :: y) x.length := by
  refine ⟨by simp, by unfold bat; simp, by rw [esc_fold]; exact hx.1, fun i hi hq => ?_⟩
  have hb : bat (x ++ 34 :: y) i = bat x i := bat_append_left x _ i hi
  have e := esc_fold (x.take i) (x.drop i ++ 34 :: y)
  rw [← List.append_assoc, List.take_append_drop, List.length_take, Nat.min_eq_left (by omega)] at e
  rw [e]
  exact Free_at x false hx.2 i hi (by rw [← hb]; exact hq)

/-- the first quote from s on, or none -/
theorem next_quote (bs : List Int) (s : Nat) (hs : s ≤ bs.length) : (∃ d, s + d < bs.length ∧ bat bs (s + d) = 34 ∧ ∀ i, i < d → bat bs (s + i) ≠ 34) ∨ ∀ i, s ≤ i → i < bs.length → bat bs i ≠ 34 := by
  obtain ⟨m, hm⟩ : ∃ m, s + m = bs.length := ⟨bs.length - s, by omega⟩
  induction m generalizing s with
  | zero => exact .inr fun i h1 h2 => by omega
  | succ m ih =>
    by_cases h : bat bs s = 34
    · exact .inl ⟨0, by omega, h, fun i hi => by omega⟩
    · rcases ih (s + 1) (by omega) (by omega) with ⟨d, h1, h2, h3⟩ | h1
      · refine .inl ⟨d + 1, by omega, by rw [show s + (d + 1) = s + 1 + d by omega]; exact h2, fun i hi => ?_⟩
        rcases Nat.eq_zero_or_pos i with e | e
        · subst e; exact h
        · have := h3 (i - 1) (by omega)
          rw [show s + 1 + (i - 1) = s + i by omega] at this; exact this
      · refine .inr fun i h2 h3 => ?_
        by_cases e : i = s
        · subst e; exact h
        · exact h1 i (by omega) h3

end Go.Zp
