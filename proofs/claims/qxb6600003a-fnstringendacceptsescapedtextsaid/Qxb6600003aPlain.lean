/- Plain lists of bytes: no Go in here. -/
namespace Go.Zp
set_option linter.unusedVariables false
set_option linter.unusedSimpArgs false

/-- The byte at place k (0 beyond the end). -/
def bat (bs : List Int) (k : Nat) : Int := bs.getD k 0

theorem drop_at (bs : List Int) (p : Nat) (h : p < bs.length) : bs.drop p = bat bs p :: bs.drop (p + 1) := by
  rw [List.drop_eq_getElem_cons h]; simp [bat, h]
theorem bat_append_right (a b : List Int) (i : Nat) : bat (a ++ b) (a.length + i) = bat b i := by
  unfold bat; simp [List.getElem?_append_right]
theorem bat_append_left (a b : List Int) (i : Nat) (h : i < a.length) : bat (a ++ b) i = bat a i := by
  unfold bat; simp [List.getElem?_append_left h]
theorem bat_drop (bs : List Int) (p i : Nat) : bat (bs.drop p) i = bat bs (p + i) := by
  unfold bat; simp [List.getD_eq_getElem?_getD, List.getElem?_drop]
theorem bat_mem (bs : List Int) (i : Nat) (h : i < bs.length) : bat bs i ∈ bs := by
  have e : bat bs i = bs[i] := by unfold bat; simp [h]
  rw [e]; exact List.getElem_mem _

/-! ### where a string that is valid ends -/
def hexB (c : Int) : Bool := (decide (48 ≤ c) && decide (c ≤ 57)) || (decide (97 ≤ c) && decide (c ≤ 102)) || (decide (65 ≤ c) && decide (c ≤ 70))
def shortB (c : Int) : Bool := decide (c = 34) || decide (c = 92) || decide (c = 47) || decide (c = 98) || decide (c = 102) || decide (c = 110) || decide (c = 114) || decide (c = 116)

/-- How many bytes from here to just behind the closing quote, if all is valid. Mode 0: plain; 1: behind a backslash; 2 to 5: that many hexadecimal digits, less one, are still to come. -/
def strV : List Int → Nat → Option Nat
  | [], _ => none
  | c :: t, m =>
    if m = 0 then (if c = 34 then some 1 else if c = 92 then (strV t 1).map (· + 1) else if c < 32 then none else (strV t 0).map (· + 1))
    else if m = 1 then (if shortB c = true then (strV t 0).map (· + 1) else if c = 117 then (strV t 5).map (· + 1) else none)
    else if hexB c = true then (strV t (if m = 2 then 0 else m - 1)).map (· + 1) else none

theorem strV0 (c : Int) (t : List Int) : strV (c :: t) 0 = if c = 34 then some 1 else if c = 92 then (strV t 1).map (· + 1) else if c < 32 then none else (strV t 0).map (· + 1) := rfl
theorem strV1 (c : Int) (t : List Int) : strV (c :: t) 1 = if shortB c = true then (strV t 0).map (· + 1) else if c = 117 then (strV t 5).map (· + 1) else none := rfl
theorem strVh (c : Int) (t : List Int) (m : Nat) (h : 2 ≤ m) : strV (c :: t) m = if hexB c = true then (strV t (if m = 2 then 0 else m - 1)).map (· + 1) else none := by
  have h0 : ¬ m = 0 := by omega
  have h1 : ¬ m = 1 := by omega
  show (if m = 0 then _ else if m = 1 then _ else _) = _
  rw [if_neg h0, if_neg h1]

theorem strV_lt (bs : List Int) (p m k : Nat) (h : strV (bs.drop p) k = some m) : p < bs.length := by
  by_cases hp : p < bs.length
  · exact hp
  · rw [List.drop_eq_nil_of_le (by omega)] at h; simp [strV] at h

theorem strV_hex (bs : List Int) (p m k : Nat) (hk : 2 ≤ k) (h : strV (bs.drop p) k = some m) :
    p < bs.length ∧ hexB (bat bs p) = true ∧ ∃ m', m = m' + 1 ∧ strV (bs.drop (p + 1)) (if k = 2 then 0 else k - 1) = some m' := by
  have hp := strV_lt bs p m k h
  rw [drop_at bs p hp, strVh _ _ _ hk] at h
  cases hh : hexB (bat bs p)
  · rw [hh] at h; simp at h
  · rw [hh] at h
    simp only [if_true, Option.map_eq_some_iff] at h
    obtain ⟨m', h1, h2⟩ := h
    exact ⟨hp, rfl, m', h2.symm, h1⟩

/-- one step of the reading -/
theorem strV_at (bs : List Int) (p m : Nat) (h : strV (bs.drop p) 0 = some m) :
    p < bs.length ∧ ((bat bs p = 34 ∧ m = 1) ∨
      (bat bs p = 92 ∧ p + 1 < bs.length ∧ shortB (bat bs (p + 1)) = true ∧ ∃ m', m = m' + 2 ∧ strV (bs.drop (p + 2)) 0 = some m') ∨
      (bat bs p = 92 ∧ bat bs (p + 1) = 117 ∧ p + 5 < bs.length ∧ hexB (bat bs (p + 2)) = true ∧ hexB (bat bs (p + 3)) = true ∧ hexB (bat bs (p + 4)) = true ∧ hexB (bat bs (p + 5)) = true ∧ ∃ m', m = m' + 6 ∧ strV (bs.drop (p + 6)) 0 = some m') ∨
      (bat bs p ≠ 34 ∧ bat bs p ≠ 92 ∧ 32 ≤ bat bs p ∧ ∃ m', m = m' + 1 ∧ strV (bs.drop (p + 1)) 0 = some m')) := by
  have hp := strV_lt bs p m 0 h
  refine ⟨hp, ?_⟩
  rw [drop_at bs p hp, strV0] at h
  by_cases h1 : bat bs p = 34
  · rw [if_pos h1] at h; simp at h; exact .inl ⟨h1, h.symm⟩
  rw [if_neg h1] at h
  by_cases h2 : bat bs p = 92
  · rw [if_pos h2] at h
    simp only [Option.map_eq_some_iff] at h
    obtain ⟨m1, h3, h4⟩ := h
    have hp1 := strV_lt bs (p + 1) m1 1 h3
    rw [drop_at bs (p + 1) hp1, strV1] at h3
    cases hs : shortB (bat bs (p + 1))
    · rw [hs] at h3
      simp only [Bool.false_eq_true, if_false] at h3
      by_cases h5 : bat bs (p + 1) = 117
      · rw [if_pos h5] at h3
        simp only [Option.map_eq_some_iff] at h3
        obtain ⟨m2, h6, h7⟩ := h3
        obtain ⟨a1, a2, m3, a3, a4⟩ := strV_hex bs (p + 1 + 1) m2 5 (by omega) h6
        obtain ⟨b1, b2, m4, b3, b4⟩ := strV_hex bs (p + 1 + 1 + 1) m3 4 (by omega) a4
        obtain ⟨c1, c2, m5, c3, c4⟩ := strV_hex bs (p + 1 + 1 + 1 + 1) m4 3 (by omega) b4
        obtain ⟨d1, d2, m6, d3, d4⟩ := strV_hex bs (p + 1 + 1 + 1 + 1 + 1) m5 2 (by omega) c4
        exact .inr (.inr (.inl ⟨h2, h5, d1, a2, b2, c2, d2, m6, by omega, d4⟩))
      · rw [if_neg h5] at h3; simp at h3
    · rw [hs] at h3
      simp only [if_true, Option.map_eq_some_iff] at h3
      obtain ⟨m2, h6, h7⟩ := h3
      exact .inr (.inl ⟨h2, hp1, rfl, m2, by omega, h6⟩)
  · rw [if_neg h2] at h
    by_cases h5 : bat bs p < 32
    · rw [if_pos h5] at h; simp at h
    · rw [if_neg h5] at h
      simp only [Option.map_eq_some_iff] at h
      obtain ⟨m', h3, h4⟩ := h
      exact .inr (.inr (.inr ⟨h1, h2, by omega, m', h4.symm, h3⟩))

/-- A text that the reading passes over. -/
def OkT (x : List Int) : Prop := ∀ rest, strV (x ++ rest) 0 = (strV rest 0).map (· + x.length)
theorem OkT.nil : OkT [] := fun rest => by simp
theorem OkT.append {x y : List Int} (hx : OkT x) (hy : OkT y) : OkT (x ++ y) := fun rest => by
  rw [List.append_assoc, hx, hy, Option.map_map]; congr 1; funext n; simp; omega
theorem OkT.raw {c : Int} (h1 : c ≠ 34) (h2 : c ≠ 92) (h3 : 32 ≤ c) : OkT [c] := fun rest => by
  rw [List.cons_append, List.nil_append, strV0, if_neg h1, if_neg h2, if_neg (by omega)]; rfl
theorem OkT.short {c : Int} (h : shortB c = true) : OkT [92, c] := fun rest => by
  rw [List.cons_append, List.cons_append, List.nil_append, strV0, if_neg (by decide), if_pos rfl, strV1, if_pos h, Option.map_map]; rfl
theorem OkT.uni {a b c d : Int} (h1 : hexB a = true) (h2 : hexB b = true) (h3 : hexB c = true) (h4 : hexB d = true) : OkT [92, 117, a, b, c, d] := fun rest => by
  simp only [List.cons_append, List.nil_append]
  rw [strV0, if_neg (by decide), if_pos rfl, strV1, if_neg (by decide), if_pos rfl, strVh _ _ _ (by omega), if_pos h1, if_neg (by decide), strVh _ _ _ (by omega), if_pos h2, if_neg (by decide), strVh _ _ _ (by omega), if_pos h3, if_neg (by decide), strVh _ _ _ (by omega), if_pos h4, if_pos rfl]
  simp only [Option.map_map]
  rfl

/-! ### escapes by a flag, and by the run of backslashes -/
/-- Is the byte at place p + 1 + k escaped (the text begins behind place p)? -/
def escF (bs : List Int) (p : Nat) : Nat → Bool
  | 0 => false
  | k + 1 => decide (bat bs (p + 1 + k) = 92) && !escF bs p k
/-- How many backslashes stand right before place p + 1 + k. -/
def runB (bs : List Int) (p : Nat) : Nat → Nat
  | 0 => 0
  | k + 1 => if bat bs (p + 1 + k) = 92 then runB bs p k + 1 else 0

theorem escF_run (bs : List Int) (p : Nat) : ∀ k, escF bs p k = true ↔ runB bs p k % 2 = 1
  | 0 => by simp [escF, runB]
  | k + 1 => by
    have ih := escF_run bs p k
    have e1 : escF bs p (k + 1) = (decide (bat bs (p + 1 + k) = 92) && !escF bs p k) := rfl
    have e2 : runB bs p (k + 1) = if bat bs (p + 1 + k) = 92 then runB bs p k + 1 else 0 := rfl
    by_cases h : bat bs (p + 1 + k) = 92
    · rw [e1, e2, if_pos h, decide_eq_true h]
      cases hh : escF bs p k
      · have h1 : ¬ runB bs p k % 2 = 1 := fun h2 => by rw [ih.2 h2] at hh; cases hh
        simp; omega
      · have h1 := ih.1 hh
        simp; omega
    · rw [e1, e2, if_neg h, decide_eq_false h]; simp

theorem runB_le (bs : List Int) (p : Nat) : ∀ k, runB bs p k ≤ k
  | 0 => Nat.le_refl _
  | k + 1 => by have := runB_le bs p k; simp only [runB]; split <;> omega

/-- Place q is the first quote behind p that is not escaped. -/
structure Cq (bs : List Int) (p q : Nat) : Prop where
  lt : p < q
  len : q < bs.length
  quote : bat bs q = 34
  free : escF bs p (q - (p + 1)) = false
  first : ∀ i, p < i → i < q → bat bs i = 34 → escF bs p (i - (p + 1)) = true

/-- The next escape flag. -/
def nx (c : Int) (e : Bool) : Bool := decide (c = 92) && !e
/-- x leaves the flag at false if it came so, and holds no quote that is not escaped. -/
def fold (x : List Int) (e : Bool) : Bool := x.foldl (fun e c => nx c e) e
def NoQ : List Int → Bool → Prop
  | [], _ => True
  | c :: t, e => (c = 34 → e = true) ∧ NoQ t (nx c e)
/-- A text that is passed over in a string. -/
def Pas (x : List Int) : Prop := fold x false = false ∧ NoQ x false
theorem NoQ_append : ∀ (x y : List Int) (e : Bool), NoQ x e → NoQ y (fold x e) → NoQ (x ++ y) e
  | [], y, e, _, h => h
  | c :: t, y, e, h1, h2 => ⟨h1.1, NoQ_append t y (nx c e) h1.2 h2⟩
theorem Pas.nil : Pas [] := ⟨rfl, trivial⟩
theorem Pas.append {x y : List Int} (hx : Pas x) (hy : Pas y) : Pas (x ++ y) := by
  refine ⟨?_, NoQ_append x y false hx.2 (by rw [hx.1]; exact hy.2)⟩
  have : fold (x ++ y) false = fold y (fold x false) := by unfold fold; rw [List.foldl_append]
  rw [this, hx.1, hy.1]
theorem Pas.raw {c : Int} (h1 : c ≠ 34) (h2 : c ≠ 92) : Pas [c] := ⟨by simp [fold, nx, h2], ⟨fun h => absurd h h1, trivial⟩⟩
theorem Pas.two (c : Int) : Pas [92, c] := by
  refine ⟨by simp [fold, nx], ⟨by decide, ⟨fun _ => by simp [nx], trivial⟩⟩⟩

theorem escF_fold (bs x : List Int) (p : Nat) (y : List Int) (h : bs.drop (p + 1) = x ++ y) : escF bs p x.length = fold x false := by
  have key : ∀ k, k ≤ x.length → escF bs p k = fold (x.take k) false := by
    intro k
    induction k with
    | zero => intro _; rfl
    | succ k ih =>
      intro hk
      have hb : bat bs (p + 1 + k) = bat x k := by rw [← bat_drop, h]; exact bat_append_left x y k (by omega)
      have hx : x[k]? = some (bat x k) := by unfold bat; simp [show k < x.length by omega]
      have ht : fold (x.take (k + 1)) false = nx (bat x k) (fold (x.take k) false) := by
        rw [List.take_add_one, hx]
        unfold fold
        rw [List.foldl_append]; rfl
      rw [ht, ← ih (by omega), ← hb]; rfl
  have := key x.length (Nat.le_refl _)
  rw [List.take_length] at this; exact this

theorem NoQ_at : ∀ (x : List Int) (e : Bool), NoQ x e → ∀ k, k < x.length → bat x k = 34 → fold (x.take k) e = true
  | [], e, _, k, hk, _ => by simp at hk
  | c :: t, e, h, 0, _, hq => h.1 (by simpa [bat] using hq)
  | c :: t, e, h, k + 1, hk, hq => NoQ_at t (nx c e) h.2 k (by simpa using hk) (by simpa [bat] using hq)

/-- A text that is passed over, and the quote behind it. -/
theorem Cq.of (bs x y : List Int) (p : Nat) (h : bs.drop (p + 1) = x ++ 34 :: y) (hx : Pas x) : Cq bs p (p + 1 + x.length) := by
  have hlen : p + 1 + x.length < bs.length := by
    have h1 := congrArg List.length h
    simp at h1; omega
  have hq : bat bs (p + 1 + x.length) = 34 := by rw [← bat_drop, h]; unfold bat; simp
  refine ⟨by omega, hlen, hq, ?_, fun i h1 h2 h3 => ?_⟩
  · rw [show p + 1 + x.length - (p + 1) = x.length by omega, escF_fold bs x p _ h]; exact hx.1
  · obtain ⟨k, rfl⟩ : ∃ k, i = p + 1 + k := ⟨i - (p + 1), by omega⟩
    rw [show p + 1 + k - (p + 1) = k by omega]
    have hk : k < x.length := by omega
    have hb : bat bs (p + 1 + k) = bat x k := by rw [← bat_drop, h]; exact bat_append_left x _ k hk
    have hs : bs.drop (p + 1) = x.take k ++ (x.drop k ++ 34 :: y) := by rw [h, ← List.append_assoc, List.take_append_drop]
    have e := escF_fold bs (x.take k) p _ hs
    rw [List.length_take, Nat.min_eq_left (by omega)] at e
    rw [e]
    exact NoQ_at x false hx.2 k hk (by rw [← hb]; exact h3)

end Go.Zp
