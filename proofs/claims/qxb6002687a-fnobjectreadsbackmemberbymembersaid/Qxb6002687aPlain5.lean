/- The object's text, plainly. -/
import Derived.Test.Qxb6002687aPlain4
namespace Go.Zp
set_option linter.unusedVariables false
set_option linter.unusedSimpArgs false

/-- name i, a colon, value i -/
def memL (N V : Nat → List Int) (i : Nat) : List Int := N i ++ 58 :: V i
/-- the object's text before its closing brace, after k members -/
def objK (N V : Nat → List Int) (k : Nat) : List Int := 123 :: joinK (memL N V) k
theorem objK_zero (N V : Nat → List Int) : objK N V 0 = [123] := rfl
theorem objK_one (N V : Nat → List Int) : objK N V 1 = ((objK N V 0 ++ N 0) ++ [58]) ++ V 0 := by simp [objK, joinK, memL]
theorem objK_succ (N V : Nat → List Int) (k : Nat) (h : 0 < k) : objK N V (k + 1) = (((objK N V k ++ [44]) ++ N k) ++ [58]) ++ V k := by
  have : ¬ k = 0 := by omega
  simp [objK, joinK, this, memL]

/-- how long the object's text is, at most -/
def szK (N V : Nat → List Int) : Nat → Nat
  | 0 => 2
  | k + 1 => szK N V k + ((N k).length + 2 + (V k).length)
theorem objK_len (N V : Nat → List Int) : ∀ k, (objK N V k).length + 1 ≤ szK N V k
  | 0 => by simp [objK, joinK, szK]
  | k + 1 => by
    have ih := objK_len N V k
    simp only [szK]
    rcases Nat.eq_zero_or_pos k with h | h
    · subst h; rw [objK_one]; simp [objK, joinK] at ih ⊢; omega
    · rw [objK_succ N V k h]; simp; omega
theorem szK_mono (N V : Nat → List Int) {j k : Nat} (h : j ≤ k) : szK N V j ≤ szK N V k := by
  induction k with
  | zero => have : j = 0 := by omega
            subst this; exact Nat.le_refl _
  | succ k ih =>
    by_cases e : j = k + 1
    · subst e; exact Nat.le_refl _
    · have := ih (by omega); simp only [szK]; omega

end Go.Zp
