/- Where a nested value ends, plainly. No Go in here. -/
import Derived.Test.Qxb6002687aPlain2
namespace Go.Zp
set_option linter.unusedVariables false
set_option linter.unusedSimpArgs false

def dep (c : Int) (d : Nat) : Nat := if c = 123 ∨ c = 91 then d + 1 else if c = 125 ∨ c = 93 then d - 1 else d

/-- How many bytes from here to just behind the bracket that closes all. Mode 0: outside a string; 1: inside; 2: behind a backslash inside. -/
def scan : List Int → Nat → Nat → Option Nat
  | [], _, _ => none
  | c :: t, mode, d =>
    if mode = 2 then (scan t 1 d).map (· + 1)
    else if mode = 1 then (scan t (if c = 34 then 0 else if c = 92 then 2 else 1) d).map (· + 1)
    else if c = 34 then (scan t 1 d).map (· + 1)
    else if dep c d = 0 then some 1 else (scan t 0 (dep c d)).map (· + 1)

theorem scan_cons (c : Int) (t : List Int) (mode d : Nat) : scan (c :: t) mode d =
    if mode = 2 then (scan t 1 d).map (· + 1)
    else if mode = 1 then (scan t (if c = 34 then 0 else if c = 92 then 2 else 1) d).map (· + 1)
    else if c = 34 then (scan t 1 d).map (· + 1)
    else if dep c d = 0 then some 1 else (scan t 0 (dep c d)).map (· + 1) := rfl

theorem scan2 (c : Int) (t : List Int) (d : Nat) : scan (c :: t) 2 d = (scan t 1 d).map (· + 1) := by rw [scan_cons, if_pos rfl]
theorem scan1q (t : List Int) (d : Nat) : scan (34 :: t) 1 d = (scan t 0 d).map (· + 1) := by rw [scan_cons, if_neg (by decide), if_pos rfl, if_pos rfl]
theorem scan1b (t : List Int) (d : Nat) : scan (92 :: t) 1 d = (scan t 2 d).map (· + 1) := by rw [scan_cons, if_neg (by decide), if_pos rfl, if_neg (by decide), if_pos rfl]
theorem scan1o (c : Int) (t : List Int) (d : Nat) (h1 : c ≠ 34) (h2 : c ≠ 92) : scan (c :: t) 1 d = (scan t 1 d).map (· + 1) := by rw [scan_cons, if_neg (by decide), if_pos rfl, if_neg h1, if_neg h2]
theorem scan0q (t : List Int) (d : Nat) : scan (34 :: t) 0 d = (scan t 1 d).map (· + 1) := by rw [scan_cons, if_neg (by decide), if_neg (by decide), if_pos rfl]
theorem scan0o (c : Int) (t : List Int) (d : Nat) (h1 : c ≠ 34) : scan (c :: t) 0 d = if dep c d = 0 then some 1 else (scan t 0 (dep c d)).map (· + 1) := by rw [scan_cons, if_neg (by decide), if_neg (by decide), if_neg h1]

theorem strS_false (c : Int) (t : List Int) : strS (c :: t) false = if c = 34 then some 1 else (strS t (decide (c = 92))).map (· + 1) := rfl
theorem strS_true (c : Int) (t : List Int) : strS (c :: t) true = (strS t false).map (· + 1) := rfl

theorem scan_str : ∀ (l : List Int) (e : Bool) (d m : Nat), scan l (if e then 2 else 1) d = some m → ∃ k m', strS l e = some k ∧ m = k + m' ∧ scan (l.drop k) 0 d = some m'
  | [], e, d, m, h => by simp [scan] at h
  | c :: t, true, d, m, h => by
    simp only [if_true] at h
    rw [scan2] at h
    simp only [Option.map_eq_some_iff] at h
    obtain ⟨m1, h1, rfl⟩ := h
    obtain ⟨k, m', h2, h3, h4⟩ := scan_str t false d m1 h1
    exact ⟨k + 1, m', by rw [strS_true, h2]; rfl, by omega, h4⟩
  | c :: t, false, d, m, h => by
    simp only [Bool.false_eq_true, if_false] at h
    by_cases h1 : c = 34
    · subst h1
      rw [scan1q] at h
      simp only [Option.map_eq_some_iff] at h
      obtain ⟨m1, h1, rfl⟩ := h
      exact ⟨1, m1, by rw [strS_false, if_pos rfl], by omega, h1⟩
    · by_cases h2 : c = 92
      · subst h2
        rw [scan1b] at h
        simp only [Option.map_eq_some_iff] at h
        obtain ⟨m1, h1, rfl⟩ := h
        obtain ⟨k, m', h2, h3, h4⟩ := scan_str t true d m1 h1
        exact ⟨k + 1, m', by rw [strS_false, if_neg (by decide), decide_eq_true rfl, h2]; rfl, by omega, h4⟩
      · rw [scan1o c t d h1 h2] at h
        simp only [Option.map_eq_some_iff] at h
        obtain ⟨m1, h3, rfl⟩ := h
        obtain ⟨k, m', h4, h5, h6⟩ := scan_str t false d m1 h3
        exact ⟨k + 1, m', by rw [strS_false, if_neg h1, decide_eq_false h2, h4]; rfl, by omega, h6⟩

theorem scan_lt (bs : List Int) (p m d k : Nat) (h : scan (bs.drop p) k d = some m) : p < bs.length := by
  by_cases hp : p < bs.length
  · exact hp
  · rw [List.drop_eq_nil_of_le (by omega)] at h; simp [scan] at h

theorem scan_at_str (bs : List Int) (p m d : Nat) (h : scan (bs.drop p) 0 d = some m) (hc : bat bs p = 34) :
    ∃ k m', strS (bs.drop (p + 1)) false = some k ∧ m = 1 + k + m' ∧ scan (bs.drop (p + 1 + k)) 0 d = some m' := by
  have hp := scan_lt bs p m d 0 h
  rw [drop_at bs p hp, hc, scan0q] at h
  simp only [Option.map_eq_some_iff] at h
  obtain ⟨m1, h1, rfl⟩ := h
  obtain ⟨k, m', h2, h3, h4⟩ := scan_str _ false d m1 h1
  exact ⟨k, m', h2, by omega, by rw [List.drop_drop] at h4; exact h4⟩

theorem scan_at_oth (bs : List Int) (p m d : Nat) (h : scan (bs.drop p) 0 d = some m) (hc : bat bs p ≠ 34) :
    (dep (bat bs p) d = 0 ∧ m = 1) ∨ (0 < dep (bat bs p) d ∧ ∃ m', m = m' + 1 ∧ scan (bs.drop (p + 1)) 0 (dep (bat bs p) d) = some m') := by
  have hp := scan_lt bs p m d 0 h
  rw [drop_at bs p hp, scan0o _ _ _ hc] at h
  by_cases h0 : dep (bat bs p) d = 0
  · rw [if_pos h0] at h; simp at h; exact .inl ⟨h0, h.symm⟩
  · rw [if_neg h0] at h
    simp only [Option.map_eq_some_iff] at h
    obtain ⟨m1, h1, rfl⟩ := h
    exact .inr ⟨by omega, m1, rfl, h1⟩

/-! ### what is whole -/

/-- Inside a value: x is passed over, the depth stays. -/
def Bal (x : List Int) : Prop := ∀ d rest, scan (x ++ rest) 0 (d + 1) = (scan rest 0 (d + 1)).map (· + x.length)
/-- Inside a string: x is passed over. -/
def InS (x : List Int) : Prop := ∀ d rest, scan (x ++ rest) 1 d = (scan rest 1 d).map (· + x.length)

theorem Bal.nil : Bal [] := fun d rest => by simp
theorem Bal.append {x y : List Int} (hx : Bal x) (hy : Bal y) : Bal (x ++ y) := fun d rest => by
  rw [List.append_assoc, hx, hy, Option.map_map]; congr 1; funext n; simp; omega
theorem InS.nil : InS [] := fun d rest => by simp
theorem InS.append {x y : List Int} (hx : InS x) (hy : InS y) : InS (x ++ y) := fun d rest => by
  rw [List.append_assoc, hx, hy, Option.map_map]; congr 1; funext n; simp; omega
theorem InS.one {c : Int} (h1 : c ≠ 34) (h2 : c ≠ 92) : InS [c] := fun d rest => by
  rw [List.cons_append, List.nil_append, scan1o c _ d h1 h2]; rfl
theorem InS.esc (c : Int) : InS [92, c] := fun d rest => by
  rw [List.cons_append, List.cons_append, List.nil_append, scan1b, scan2, Option.map_map]; rfl
theorem Bal.one {c : Int} (h1 : c ≠ 34) (h2 : c ≠ 123) (h3 : c ≠ 91) (h4 : c ≠ 125) (h5 : c ≠ 93) : Bal [c] := fun d rest => by
  have e : dep c (d + 1) = d + 1 := by unfold dep; rw [if_neg (by omega), if_neg (by omega)]
  rw [List.cons_append, List.nil_append, scan0o c _ _ h1, e, if_neg (by omega)]; rfl

theorem hexD_plain (b : Int) (h0 : 0 ≤ b) (h1 : b < 16) : hexD b ≠ 34 ∧ hexD b ≠ 92 := by
  unfold hexD; split <;> omega

theorem InS.encB (c : Int) (h : 0 ≤ c) : InS (encB c) := by
  unfold Go.Zp.encB
  split
  · exact InS.esc c
  · split
    · have a := hexD_plain (c / 16) (by omega) (by omega)
      have b := hexD_plain (c % 16) (by omega) (by omega)
      exact (InS.esc 117).append (((InS.one (c := 48) (by decide) (by decide)).append (InS.one (c := 48) (by decide) (by decide))).append ((InS.one a.1 a.2).append (InS.one b.1 b.2)))
    · exact InS.one (by omega) (by omega)

theorem InS.encL (l : List Int) (h : ∀ c ∈ l, 0 ≤ c) : InS (encL l) := by
  induction l with
  | nil => exact InS.nil
  | cons c l ih =>
    show InS (Go.Zp.encB c ++ Go.Zp.encL l)
    exact (InS.encB c (h c (by simp))).append (ih fun d hd => h d (by simp [hd]))

theorem Bal.enc (l : List Int) (h : ∀ c ∈ l, 0 ≤ c) : Bal (enc l) := fun d rest => by
  show scan (34 :: (encL l ++ [34] ++ rest)) 0 (d + 1) = _
  rw [scan0q, List.append_assoc, InS.encL l h, List.cons_append, List.nil_append, scan1q, Option.map_map, Option.map_map]
  congr 1; funext n; simp [Go.Zp.enc]; omega

theorem sB_nonneg (s : ByteArray) : ∀ c ∈ sB s, 0 ≤ c := by
  intro c hc
  obtain ⟨b, _, rfl⟩ := List.mem_map.1 hc
  omega

/-- In brackets. -/
theorem Bal.wrap {x : List Int} (hx : Bal x) {a z : Int} (ha : a = 123 ∨ a = 91) (hz : z = 125 ∨ z = 93) : Bal (a :: (x ++ [z])) := fun d rest => by
  have e1 : dep a (d + 1) = d + 1 + 1 := by unfold dep; rw [if_pos ha]
  have e2 : dep z (d + 1 + 1) = d + 1 := by unfold dep; rw [if_neg (by omega), if_pos hz]; omega
  rw [List.cons_append, scan0o a _ _ (by omega), e1, if_neg (by omega), List.append_assoc, hx, List.cons_append, List.nil_append, scan0o z _ _ (by omega), e2, if_neg (by omega), Option.map_map, Option.map_map]
  congr 1; funext n; simp; omega

/-- A whole value in brackets is read to its end. -/
theorem scan_top {x : List Int} (hx : Bal x) {a z : Int} (ha : a = 123 ∨ a = 91) (hz : z = 125 ∨ z = 93) (rest : List Int) : scan (a :: (x ++ [z]) ++ rest) 0 0 = some (x.length + 2) := by
  have e1 : dep a 0 = 0 + 1 := by unfold dep; rw [if_pos ha]
  have e2 : dep z (0 + 1) = 0 := by unfold dep; rw [if_neg (by omega), if_pos hz]
  rw [List.cons_append, scan0o a _ _ (by omega), e1, if_neg (by omega), List.append_assoc, hx, List.cons_append, List.nil_append, scan0o z _ _ (by omega), e2, if_pos rfl]
  simp; omega

def keyL : List Int := [107, 34, 125, 93, 92, 91, 123]
/-- zzWrap: in an array, or in an object under the key; with white space, or without. -/
def wrapB (p q : Bool) (xs : List Int) : List Int :=
  (if p then [91] else 123 :: (enc keyL ++ [58])) ++ ((if q then [32] else []) ++ (xs ++ ((if q then [10] else []) ++ (if p then [93] else [125]))))

end Go.Zp
