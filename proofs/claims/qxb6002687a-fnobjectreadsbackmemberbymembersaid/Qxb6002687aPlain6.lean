/- The object's members, place by place. -/
import Derived.Test.Qxb6002687aPlain5
namespace Go.Zp
set_option linter.unusedVariables false
set_option linter.unusedSimpArgs false

/-- A number's text. -/
def Num (x : List Int) : Prop := 0 < x.length ∧ ∀ c ∈ x, 45 ≤ c ∧ c ≤ 57
/-- An encoded string. -/
def Str (x : List Int) : Prop := ∃ l, (∀ c ∈ l, 0 ≤ c) ∧ x = enc l
/-- What a member's value may be. -/
def Val (x : List Int) : Prop := Str x ∨ Whole x ∨ Num x

theorem Num.bal {x : List Int} (h : Num x) : Bal x := by
  have : ∀ l : List Int, (∀ c ∈ l, 45 ≤ c ∧ c ≤ 57) → Bal l := by
    intro l
    induction l with
    | nil => intro _; exact Bal.nil
    | cons c l ih =>
      intro h
      have hc := h c (by simp)
      exact (Bal.one (c := c) (by omega) (by omega) (by omega) (by omega) (by omega)).append (ih fun d hd => h d (by simp [hd]))
  exact this x h.2
theorem Str.bal {x : List Int} (h : Str x) : Bal x := by
  obtain ⟨l, hl, rfl⟩ := h
  exact Bal.enc l hl
theorem Val.bal {x : List Int} (h : Val x) : Bal x := by
  rcases h with h | h | h
  · exact h.bal
  · exact h.bal
  · exact h.bal

/-- inside a string the encoder's text is passed over -/
def InT (x : List Int) : Prop := ∀ rest, strS (x ++ rest) false = (strS rest false).map (· + x.length)
theorem InT.nil : InT [] := fun rest => by simp
theorem InT.append {x y : List Int} (hx : InT x) (hy : InT y) : InT (x ++ y) := fun rest => by
  rw [List.append_assoc, hx, hy, Option.map_map]; congr 1; funext n; simp; omega
theorem InT.one {c : Int} (h1 : c ≠ 34) (h2 : c ≠ 92) : InT [c] := fun rest => by
  rw [List.cons_append, List.nil_append, strS_false, if_neg h1, decide_eq_false h2]; rfl
theorem InT.esc (c : Int) : InT [92, c] := fun rest => by
  rw [List.cons_append, List.cons_append, List.nil_append, strS_false, if_neg (by decide), decide_eq_true rfl, strS_true, Option.map_map]; rfl
theorem InT.encB (c : Int) (h : 0 ≤ c) : InT (encB c) := by
  unfold Go.Zp.encB
  split
  · exact InT.esc c
  · split
    · have a := hexD_plain (c / 16) (by omega) (by omega)
      have b := hexD_plain (c % 16) (by omega) (by omega)
      exact (InT.esc 117).append (((InT.one (c := 48) (by decide) (by decide)).append (InT.one (c := 48) (by decide) (by decide))).append ((InT.one a.1 a.2).append (InT.one b.1 b.2)))
    · exact InT.one (by omega) (by omega)
theorem InT.encL (l : List Int) (h : ∀ c ∈ l, 0 ≤ c) : InT (encL l) := by
  induction l with
  | nil => exact InT.nil
  | cons c l ih =>
    show InT (Go.Zp.encB c ++ Go.Zp.encL l)
    exact (InT.encB c (h c (by simp))).append (ih fun d hd => h d (by simp [hd]))

/-- an encoded string is read to its closing quote -/
theorem Str.scan {x : List Int} (h : Str x) (rest : List Int) : ∃ t k, x = 34 :: t ∧ strS (t ++ rest) false = some k ∧ 1 + k = x.length := by
  obtain ⟨l, hl, rfl⟩ := h
  refine ⟨encL l ++ [34], (encL l).length + 1, rfl, ?_, by simp [enc]; omega⟩
  rw [List.append_assoc, InT.encL l hl, List.cons_append, List.nil_append, strS_false, if_pos rfl]
  simp; omega

theorem Bal.memL {N V : Nat → List Int} {i : Nat} (hN : Bal (N i)) (hV : Bal (V i)) : Bal (memL N V i) := by
  show Bal (N i ++ ([58] ++ V i))
  exact hN.append ((Bal.one (c := 58) (by decide) (by decide) (by decide) (by decide) (by decide)).append hV)

theorem Bal.joinK' {f : Nat → List Int} : ∀ k, (∀ i, i < k → Bal (f i)) → Bal (Go.Zp.joinK f k)
  | 0, _ => Bal.nil
  | k + 1, h => by
    refine (Bal.joinK' k (fun i hi => h i (by omega))).append (Bal.append ?_ (h k (by omega)))
    split
    · exact Bal.nil
    · exact Bal.one (by decide) (by decide) (by decide) (by decide) (by decide)

theorem objK_whole (N V : Nat → List Int) (n : Nat) (hN : ∀ i, i < n → Str (N i)) (hV : ∀ i, i < n → Val (V i)) : Whole (objK N V n ++ [125]) :=
  ⟨123, Go.Zp.joinK (memL N V) n, 125, rfl, Bal.joinK' n (fun i hi => Bal.memL (hN i hi).bal (hV i hi).bal), .inl rfl, .inl rfl⟩

/-- where member i begins -/
def posK (N V : Nat → List Int) : Nat → Nat
  | 0 => 1
  | i + 1 => posK N V i + ((N i).length + 1 + (V i).length + 1)

theorem objK_pos (N V : Nat → List Int) : ∀ i, (objK N V i).length + (if i = 0 then 0 else 1) = posK N V i
  | 0 => rfl
  | i + 1 => by
    have ih := objK_pos N V i
    simp only [posK]
    rw [← ih]
    rcases Nat.eq_zero_or_pos i with h | h
    · subst h; rw [objK_one]; simp [objK, joinK]; omega
    · have : ¬ i = 0 := by omega
      rw [objK_succ N V i h]; simp [this]; omega

/-- the text from member i on -/
theorem objK_tail (N V : Nat → List Int) (i : Nat) : ∀ n, i < n → ∃ R, objK N V n = objK N V (i + 1) ++ R ∧ (i + 1 = n → R = []) ∧ (i + 1 < n → ∃ R', R = 44 :: R')
  | 0, h => by omega
  | n + 1, h => by
    by_cases e : i = n
    · subst e; exact ⟨[], by simp, fun _ => rfl, fun h => by omega⟩
    · obtain ⟨R, h1, h2, h3⟩ := objK_tail N V i n (by omega)
      have hs := objK_succ N V n (by omega)
      by_cases e2 : i + 1 = n
      · rw [h2 e2] at h1
        refine ⟨44 :: (memL N V n), ?_, fun h => by omega, fun _ => ⟨_, rfl⟩⟩
        rw [hs, h1]; simp [memL]
      · obtain ⟨R', h4⟩ := h3 (by omega)
        refine ⟨R ++ 44 :: (memL N V n), ?_, fun h => by omega, fun _ => ⟨R' ++ 44 :: (memL N V n), by rw [h4]; rfl⟩⟩
        rw [hs, h1]; simp [memL]

theorem objK_drop (N V : Nat → List Int) (i n : Nat) (h : i < n) :
    ∃ d R, (objK N V n ++ [125]).drop (posK N V i) = N i ++ 58 :: (V i ++ d :: R) ∧ (i + 1 = n → d = 125 ∧ R = []) ∧ (i + 1 < n → d = 44) ∧
      (objK N V n ++ [125]).length = posK N V i + (N i).length + 1 + (V i).length + 1 + R.length := by
  obtain ⟨R, h1, h2, h3⟩ := objK_tail N V i n h
  have hp := objK_pos N V i
  have hA : ∃ A, objK N V (i + 1) = A ++ (N i ++ 58 :: V i) ∧ A.length = posK N V i := by
    rcases Nat.eq_zero_or_pos i with e | e
    · subst e
      exact ⟨objK N V 0, by rw [objK_one]; simp, by simpa using hp⟩
    · have ne : ¬ i = 0 := by omega
      exact ⟨objK N V i ++ [44], by rw [objK_succ N V i e]; simp, by rw [if_neg ne] at hp; simpa using hp⟩
  obtain ⟨A, hA1, hA2⟩ := hA
  have hall : objK N V n ++ [125] = A ++ (N i ++ 58 :: (V i ++ (R ++ [125]))) := by rw [h1, hA1]; simp
  by_cases e : i + 1 = n
  · have hR := h2 e
    subst hR
    refine ⟨125, [], ?_, fun _ => ⟨rfl, rfl⟩, fun h => by omega, ?_⟩
    · rw [hall, ← hA2]; simp
    · rw [hall, ← hA2]; simp; omega
  · obtain ⟨R', h4⟩ := h3 (by omega)
    subst h4
    refine ⟨44, R' ++ [125], ?_, fun h => by omega, fun _ => rfl, ?_⟩
    · rw [hall, ← hA2]; simp
    · rw [hall, ← hA2]; simp; omega

theorem bat_drop (bs : List Int) (p : Nat) (x : List Int) (c : Int) (r : List Int) (h : bs.drop p = x ++ c :: r) : bat bs (p + x.length) = c := by
  have : bat (bs.drop p) x.length = c := by rw [h]; unfold bat; simp
  unfold bat at this ⊢
  rw [List.getD_eq_getElem?_getD, List.getElem?_drop] at this
  rw [List.getD_eq_getElem?_getD]; exact this

theorem drop_more (bs : List Int) (p : Nat) (x r : List Int) (c : Int) (h : bs.drop p = x ++ c :: r) : bs.drop (p + x.length + 1) = r := by
  rw [show p + x.length + 1 = p + (x.length + 1) by omega, ← List.drop_drop, h]; simp

end Go.Zp
