/- Plain lists of bytes: no Go in here. -/
namespace Go.Zp
set_option linter.unusedVariables false
set_option linter.unusedSimpArgs false

/-- The byte at place k (0 beyond the end). -/
def bat (bs : List Int) (k : Nat) : Int := bs.getD k 0

/-- a string's bytes as numbers -/
def sB (s : ByteArray) : List Int := s.data.toList.map (fun b => (b.toNat : Int))
theorem sB_length (s : ByteArray) : (sB s).length = s.size := by simp [sB]
theorem sB_at (s : ByteArray) (k : Nat) (h : k < s.size) : (sB s)[k]? = some (s[k].toNat : Int) := by
  have h' : k < s.data.toList.length := h
  rw [sB, List.getElem?_map, List.getElem?_eq_getElem h']
  rfl
theorem sB_snoc (s : ByteArray) (k : Nat) (h : k < s.size) : (sB s).take (k + 1) = (sB s).take k ++ [(s[k].toNat : Int)] := by
  rw [List.take_add_one, sB_at s k h]; rfl
theorem sB_all (s : ByteArray) : (sB s).take s.size = sB s := List.take_of_length_le (by rw [sB_length]; omega)

def wsB (c : Int) : Int := if c % 4 = 0 then 32 else if c % 4 = 1 then 9 else if c % 4 = 2 then 10 else 13
def wsL (l : List Int) : List Int := l.map wsB

theorem ws_snoc (bs : List Int) (s : ByteArray) (k : Nat) (h : k < s.size) (c d : Int) (hc : (s[k].toNat : Int) = c) (hd : wsB c = d) :
    bs ++ wsL ((sB s).take (k + 1)) = (bs ++ wsL ((sB s).take k)) ++ [d] := by
  rw [sB_snoc s k h, wsL, List.map_append, ← List.append_assoc, ← hd, ← hc]; rfl

theorem ws_len (bs : List Int) (s : ByteArray) (k : Nat) : (bs ++ wsL ((sB s).take k)).length ≤ bs.length + s.size := by
  simp [wsL, sB_length]; omega

theorem ws0 {c : Int} (h : (c % 4 == 0) = true) : wsB c = 32 := by simp at h; simp [wsB, h]
theorem ws1 {c : Int} (h0 : (c % 4 == 0) = false) (h : (c % 4 == 1) = true) : wsB c = 9 := by simp at h h0; simp [wsB, h]
theorem ws2 {c : Int} (h0 : (c % 4 == 0) = false) (h1 : (c % 4 == 1) = false) (h : (c % 4 == 2) = true) : wsB c = 10 := by simp at h h0 h1; simp [wsB, h]
theorem ws3 {c : Int} (h0 : (c % 4 == 0) = false) (h1 : (c % 4 == 1) = false) (h : (c % 4 == 2) = false) : wsB c = 13 := by simp at h h0 h1; simp [wsB, h, h0, h1]

/-! the string encoder -/
def hexD (b : Int) : Int := if b < 10 then 48 + b else 87 + b
def encB (c : Int) : List Int := if c = 34 ∨ c = 92 ∨ c = 47 then [92, c] else if c < 32 then [92, 117, 48, 48, hexD (c / 16), hexD (c % 16)] else [c]
def encL (l : List Int) : List Int := l.flatMap encB
def enc (l : List Int) : List Int := 34 :: (encL l ++ [34])

theorem encB_len (c : Int) : (encB c).length ≤ 6 := by unfold encB; split <;> (try split) <;> simp
theorem encL_len (l : List Int) : (encL l).length ≤ 6 * l.length := by
  induction l with
  | nil => simp [encL]
  | cons c l ih =>
    have h := encB_len c
    simp only [encL, List.flatMap_cons, List.length_append, List.length_cons] at ih ⊢
    omega
theorem enc_len (l : List Int) : (enc l).length ≤ 6 * l.length + 2 := by
  have := encL_len l
  simp [enc]; omega
theorem encL_snoc (l : List Int) (c : Int) : encL (l ++ [c]) = encL l ++ encB c := by simp [encL]

theorem enc_step (bs : List Int) (s : ByteArray) (k : Nat) (h : k < s.size) (c : Int) (d : List Int) (hc : (s[k].toNat : Int) = c) (hd : encB c = d) :
    bs ++ 34 :: encL ((sB s).take (k + 1)) = (bs ++ 34 :: encL ((sB s).take k)) ++ d := by
  rw [sB_snoc s k h, encL_snoc, ← hd, ← hc]; simp
theorem enc_at_len (bs : List Int) (s : ByteArray) (k : Nat) (h : k ≤ s.size) : (bs ++ 34 :: encL ((sB s).take k)).length ≤ bs.length + 1 + 6 * s.size := by
  have h1 := encL_len ((sB s).take k)
  have h2 : ((sB s).take k).length ≤ s.size := by simp [sB_length]; omega
  simp only [List.length_append, List.length_cons]; omega
theorem enc_end (bs : List Int) (s : ByteArray) : (bs ++ 34 :: encL (sB s)) ++ [34] = bs ++ enc (sB s) := by simp [enc]

end Go.Zp
