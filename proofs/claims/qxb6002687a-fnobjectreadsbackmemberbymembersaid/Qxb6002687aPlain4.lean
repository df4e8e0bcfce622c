/- The text of the law, plainly, and that it is read whole. -/
import Derived.Test.Qxb6002687aPlain3
namespace Go.Zp
set_option linter.unusedVariables false
set_option linter.unusedSimpArgs false

/-- The first k of the texts, a comma between. -/
def joinK (f : Nat → List Int) : Nat → List Int
  | 0 => []
  | k + 1 => joinK f k ++ ((if k = 0 then [] else [44]) ++ f k)

theorem Bal.joinK {f : Nat → List Int} (h : ∀ i, Bal (f i)) : ∀ k, Bal (joinK f k)
  | 0 => Bal.nil
  | k + 1 => by
    refine (Bal.joinK h k).append (Bal.append ?_ (h k))
    split
    · exact Bal.nil
    · exact Bal.one (by decide) (by decide) (by decide) (by decide) (by decide)

/-- In brackets, and what is inside is balanced. -/
def Whole (x : List Int) : Prop := ∃ a y z, x = a :: (y ++ [z]) ∧ Bal y ∧ (a = 123 ∨ a = 91) ∧ (z = 125 ∨ z = 93)

theorem Whole.bal {x : List Int} (h : Whole x) : Bal x := by
  obtain ⟨a, y, z, rfl, hy, ha, hz⟩ := h
  exact hy.wrap ha hz

theorem keyL_nonneg : ∀ c ∈ keyL, 0 ≤ c := by decide

theorem Whole.wrapB {x : List Int} (h : Whole x) (p q : Bool) : Whole (wrapB p q x) := by
  have hs : Bal (if q then [32] else []) := by
    cases q
    · exact Bal.nil
    · exact Bal.one (by decide) (by decide) (by decide) (by decide) (by decide)
  have hn : Bal (if q then [10] else []) := by
    cases q
    · exact Bal.nil
    · exact Bal.one (by decide) (by decide) (by decide) (by decide) (by decide)
  cases p
  · refine ⟨123, (enc keyL ++ [58]) ++ ((if q then [32] else []) ++ (x ++ (if q then [10] else []))), 125, ?_, ?_, .inl rfl, .inl rfl⟩
    · simp [Go.Zp.wrapB]
    · exact ((Bal.enc keyL keyL_nonneg).append (Bal.one (by decide) (by decide) (by decide) (by decide) (by decide))).append (hs.append (h.bal.append hn))
  · refine ⟨91, ((if q then [32] else []) ++ (x ++ (if q then [10] else []))), 93, ?_, ?_, .inr rfl, .inr rfl⟩
    · simp [Go.Zp.wrapB]
    · exact hs.append (h.bal.append hn)

theorem wrapB_len (p q : Bool) (x : List Int) : (wrapB p q x).length ≤ x.length + 16 := by
  have hk : (enc keyL).length = 11 := by decide
  cases p <;> cases q <;> simp [wrapB, hk] <;> omega

/-- The wrapping of x by the first j of the bytes. -/
def wraps (g : Nat → Bool × Bool) (x : List Int) : Nat → List Int
  | 0 => x
  | j + 1 => wrapB (g j).1 (g j).2 (wraps g x j)

theorem Whole.wraps {x : List Int} (h : Whole x) (g : Nat → Bool × Bool) : ∀ j, Whole (wraps g x j)
  | 0 => h
  | j + 1 => (Whole.wraps h g j).wrapB _ _
theorem wraps_len (g : Nat → Bool × Bool) (x : List Int) : ∀ j, (wraps g x j).length ≤ x.length + 16 * j
  | 0 => by simp [wraps]
  | j + 1 => by have := wraps_len g x j; have := wrapB_len (g j).1 (g j).2 (wraps g x j); simp only [wraps]; omega

theorem Whole.scan {x : List Int} (h : Whole x) (rest : List Int) : scan (x ++ rest) 0 0 = some x.length := by
  obtain ⟨a, y, z, rfl, hy, ha, hz⟩ := h
  rw [scan_top hy ha hz]; simp

theorem Whole.head {x : List Int} (h : Whole x) : 0 < x.length ∧ (bat x 0 = 123 ∨ bat x 0 = 91) := by
  obtain ⟨a, y, z, rfl, hy, ha, hz⟩ := h
  exact ⟨by simp, by simpa [bat] using ha⟩

theorem bat_append_right (a b : List Int) (i : Nat) : bat (a ++ b) (a.length + i) = bat b i := by
  unfold bat; simp [List.getElem?_append_right]
theorem bat_append_left (a b : List Int) (i : Nat) (h : i < a.length) : bat (a ++ b) i = bat a i := by
  unfold bat; simp [List.getElem?_append_left h]

theorem wsL_length (l : List Int) : (wsL l).length = l.length := by simp [wsL]
theorem wsL_bat (l : List Int) (i : Nat) (h : i < l.length) : bat (wsL l) i = 32 ∨ bat (wsL l) i = 9 ∨ bat (wsL l) i = 10 ∨ bat (wsL l) i = 13 := by
  have e : bat (wsL l) i = wsB (l[i]) := by unfold bat wsL; simp [h]
  rw [e]
  unfold wsB
  split
  · exact .inl rfl
  · split
    · exact .inr (.inl rfl)
    · split
      · exact .inr (.inr (.inl rfl))
      · exact .inr (.inr (.inr rfl))

end Go.Zp
