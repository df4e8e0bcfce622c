/- The plain laws of CSV records: no Go in here. -/
import Derived.Test.Qxb6600108aCsv
namespace Go.Zp
set_option linter.unusedVariables false
set_option linter.unusedSimpArgs false

/-- The fields as they are written, a comma between them. -/
def joinF : List (List Int) → List Int
  | [] => []
  | [x] => fld x
  | x :: y :: r => fld x ++ 44 :: joinF (y :: r)
/-- What stands behind a field. -/
def restF : List (List Int) → List Int
  | [] => []
  | y :: r => 44 :: joinF (y :: r)
theorem joinF_cons (x : List Int) (r : List (List Int)) : joinF (x :: r) = fld x ++ restF r := by
  cases r with
  | nil => simp [joinF, restF]
  | cons y r => rfl
theorem joinF_snoc (x : List Int) : ∀ r : List (List Int), r ≠ [] → joinF (r ++ [x]) = joinF r ++ 44 :: fld x
  | [], h => absurd rfl h
  | [y], _ => rfl
  | y :: z :: r, _ => by
    have ih := joinF_snoc x (z :: r) (by simp)
    show fld y ++ 44 :: joinF ((z :: r) ++ [x]) = _
    rw [ih]
    simp [joinF]

/-- At a place where a byte stands. -/
theorem drop_cons {l : List Int} {q : Nat} {c : Int} {z : List Int} (h : l.drop q = c :: z) : q < l.length ∧ bat l q = c ∧ l.drop (q + 1) = z := by
  have hq : q < l.length := by
    rcases Nat.lt_or_ge q l.length with h1 | h1
    · exact h1
    · rw [List.drop_eq_nil_of_le h1] at h; cases h
  refine ⟨hq, ?_, ?_⟩
  · have := bat_drop l q 0
    rw [h, Nat.add_zero] at this
    rw [← this]; rfl
  · rw [← List.drop_drop, h]; rfl
theorem drop_end {l : List Int} {q : Nat} (h : l.drop q = []) : l.length ≤ q := by
  have := congrArg List.length h
  simp at this; omega
theorem restF_cases (r : List (List Int)) : (r = [] ∧ restF r = []) ∨ (r ≠ [] ∧ restF r = 44 :: joinF r) := by
  cases r with
  | nil => exact .inl ⟨rfl, rfl⟩
  | cons y r => exact .inr ⟨by simp, rfl⟩

end Go.Zp
