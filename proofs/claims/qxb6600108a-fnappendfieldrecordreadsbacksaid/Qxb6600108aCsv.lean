/- The plain laws of CSV fields: no Go in here. -/
import Derived.Test.Qxb6600108aPlain
namespace Go.Zp
set_option linter.unusedVariables false
set_option linter.unusedSimpArgs false

/-- A string's bytes as numbers. -/
def sb (s : ByteArray) : List Int := s.data.toList.map (fun b => (b.toNat : Int))
theorem sb_length (s : ByteArray) : (sb s).length = s.size := by
  unfold sb
  rw [List.length_map, Array.length_toList]
  rfl
theorem sb_at (s : ByteArray) (i : Nat) (h : i < s.size) : bat (sb s) i = ((s[i]'h).toNat : Int) := by
  unfold bat sb
  have hl : i < s.data.toList.length := by simpa using h
  simp [List.getD_eq_getElem?_getD, List.getElem?_map, List.getElem?_eq_getElem hl]
  rfl

/-- Does a byte make the field need quotes? -/
def spc (c : Int) : Bool := c == 44 || c == 34 || c == 13 || c == 10
def dbl : List Int → List Int
  | [] => []
  | c :: t => if c = 34 then 34 :: 34 :: dbl t else c :: dbl t
/-- A field as it is written. -/
def fld (xs : List Int) : List Int := if xs.any spc then 34 :: (dbl xs ++ [34]) else xs

theorem dbl_append : ∀ xs ys : List Int, dbl (xs ++ ys) = dbl xs ++ dbl ys
  | [], ys => rfl
  | c :: t, ys => by
    have ih := dbl_append t ys
    by_cases h : c = 34
    · simp [dbl, h, ih]
    · simp [dbl, h, ih]
theorem take_next (xs : List Int) (k : Nat) (h : k < xs.length) : xs.take (k + 1) = xs.take k ++ [bat xs k] := by
  have e : xs[k]? = some (bat xs k) := by unfold bat; simp [h]
  rw [List.take_add_one, e]; rfl
theorem drop_next (xs : List Int) (k : Nat) (h : k < xs.length) : xs.drop k = bat xs k :: xs.drop (k + 1) := by
  have e : bat xs k = xs[k] := by unfold bat; simp [h]
  rw [e]; exact List.drop_eq_getElem_cons h
theorem dbl_next_q (xs : List Int) (k : Nat) (h : k < xs.length) (hq : bat xs k = 34) : dbl (xs.take (k + 1)) = dbl (xs.take k) ++ [34, 34] := by
  rw [take_next xs k h, dbl_append, hq]; rfl
theorem dbl_next_c (xs : List Int) (k : Nat) (h : k < xs.length) (hq : bat xs k ≠ 34) : dbl (xs.take (k + 1)) = dbl (xs.take k) ++ [bat xs k] := by
  rw [take_next xs k h, dbl_append]
  simp [dbl, hq]
theorem dbl_length (xs : List Int) : (dbl xs).length ≤ 2 * xs.length := by
  induction xs with
  | nil => simp [dbl]
  | cons c t ih =>
    by_cases h : c = 34
    · simp [dbl, h]; omega
    · simp [dbl, h]; omega

end Go.Zp
