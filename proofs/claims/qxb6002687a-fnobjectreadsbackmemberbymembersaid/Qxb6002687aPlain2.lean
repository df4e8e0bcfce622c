/- The reader, plainly: where a string ends; where a nested value ends. No Go in here. -/
import Derived.Test.Qxb6002687aPlain
namespace Go.Zp
set_option linter.unusedVariables false
set_option linter.unusedSimpArgs false

/-- How many bytes a string takes from here to just behind its closing quote; e: the byte before was a backslash. -/
def strS : List Int → Bool → Option Nat
  | [], _ => none
  | c :: t, true => (strS t false).map (· + 1)
  | c :: t, false => if c = 34 then some 1 else (strS t (decide (c = 92))).map (· + 1)

theorem drop_at (bs : List Int) (p : Nat) (h : p < bs.length) : bs.drop p = bat bs p :: bs.drop (p + 1) := by
  rw [List.drop_eq_getElem_cons h]; simp [bat, h]

theorem strS_lt (bs : List Int) (p m : Nat) (e : Bool) (h : strS (bs.drop p) e = some m) : p < bs.length := by
  by_cases hp : p < bs.length
  · exact hp
  · rw [List.drop_eq_nil_of_le (by omega)] at h; simp [strS] at h

theorem strS_esc (bs : List Int) (p m : Nat) (h : strS (bs.drop p) true = some m) : ∃ m', m = m' + 1 ∧ strS (bs.drop (p + 1)) false = some m' := by
  have hp := strS_lt bs p m true h
  rw [drop_at bs p hp, strS] at h
  simp only [Option.map_eq_some_iff] at h
  obtain ⟨m', h3, h4⟩ := h
  exact ⟨m', h4.symm, h3⟩

theorem strS_at (bs : List Int) (p m : Nat) (h : strS (bs.drop p) false = some m) :
    p < bs.length ∧ ((bat bs p = 34 ∧ m = 1) ∨ (bat bs p = 92 ∧ ∃ m', m = m' + 2 ∧ strS (bs.drop (p + 2)) false = some m') ∨
      (bat bs p ≠ 34 ∧ bat bs p ≠ 92 ∧ ∃ m', m = m' + 1 ∧ strS (bs.drop (p + 1)) false = some m')) := by
  have hp := strS_lt bs p m false h
  refine ⟨hp, ?_⟩
  rw [drop_at bs p hp, strS] at h
  by_cases h1 : bat bs p = 34
  · rw [if_pos h1] at h; simp at h; exact .inl ⟨h1, h.symm⟩
  · rw [if_neg h1] at h
    simp only [Option.map_eq_some_iff] at h
    obtain ⟨m', h3, h4⟩ := h
    by_cases h2 : bat bs p = 92
    · simp only [h2, decide_true] at h3
      obtain ⟨m'', h5, h6⟩ := strS_esc bs (p + 1) m' h3
      exact .inr (.inl ⟨h2, m'', by omega, h6⟩)
    · simp only [h2, decide_false] at h3
      exact .inr (.inr ⟨h1, h2, m', h4.symm, h3⟩)

end Go.Zp
