import Derived.Test.Qxb6600108aChecked
import Derived.Test.Qxb6600108aBase
import Derived.Test.Qxb6600108aShelf
import Derived.Deep.LoopGhost
import Derived.Laws.RangeAny
import Derived.Laws.Runes
import Derived.WalkMore
import Derived.Laws.Strings3
namespace Go.Proofs.Qxb6600108a
set_option linter.unusedVariables false
set_option linter.unusedSimpArgs false
open Go.RowKit Go.Zq Go.Zp

/-- What makes a field need quotes: a comma, a quote, CR, LF. -/
def CH : ByteArray := ⟨#[44, 34, 13, 10]⟩

theorem ch_small : ∀ (i : Nat) (hi : i < CH.size), (CH[i]'hi).toNat < 128 := by decide

theorem idx_high (k : Nat) (x : UInt8) (h : 128 ≤ x.toNat) : Lib.indexByte (CH.extract k CH.size).data.toList x = -1 := by
  have key : ∀ l : List UInt8, (∀ b ∈ l, b.toNat < 128) → Lib.indexByte l x = -1 := by
    intro l
    induction l with
    | nil => intro _; rfl
    | cons b l ih =>
      intro hl
      have hb := hl b (by simp)
      have hne : (b == x) = false := beq_eq_false_iff_ne.2 (fun e => by subst e; omega)
      show (if (b == x) = true then (0 : Int) else if (Lib.indexByte l x == -1) = true then -1 else Lib.indexByte l x + 1) = -1
      rw [hne, ih (fun c hc => hl c (by simp [hc]))]
      rfl
  apply key
  intro b hb
  have hb2 : b ∈ CH.data.toList := by
    simp [ByteArray.data_extract] at hb
    exact List.mem_of_mem_drop (List.mem_of_mem_take hb)
  clear hb h key
  revert b
  decide

theorem decode_skip (s : ByteArray) (pos : Nat) (h : pos < s.size) (ha : 128 ≤ (s[pos]'h).toNat) : ∀ k b, k < (Utf8.decode s pos).2 → s.data.toList[pos + k]? = some b → 128 ≤ b.toNat := by
  have hg : ∀ k b, s.data.toList[pos + k]? = some b → s.get! (pos + k) = b := by
    intro k b hb
    have hlt := (List.getElem?_eq_some_iff.1 hb).1
    have := (List.getElem?_eq_some_iff.1 hb).2
    rw [← this]
    simp at hlt
    simp [ByteArray.get!, hlt]
  have h0 : s.get! (pos + 0) = s[pos]'h := get_at s pos h
  intro k b hk hb
  have hb' := hg k b hb
  have hn : ¬ (s.get! (pos + 0)).toNat < 128 := by rw [h0]; omega
  rw [← hb']
  revert hk
  simp only [Utf8.decode]
  repeat' split
  all_goals
    intro hk
    simp only [Bool.and_eq_true, decide_eq_true_eq, beq_iff_eq] at *
    rcases (show k = 0 ∨ k = 1 ∨ k = 2 ∨ k = 3 by omega) with rfl | rfl | rfl | rfl <;> omega

set_option maxHeartbeats 2000000 in
set_option maxRecDepth 100000 in
theorem rune_err (w : World) : Calls Try.prog 34 #[.string CH, .int .i32 65533] w fun e w' => e = .returned (.int .i64 (-1)) ∧ Below w.heap.size w w' := by
  have hb : ∀ k, Below w.heap.size w (w.iter CH k) := fun k => (Below.refl _ _).alloc (Nat.le_refl _) _
  go_enter Try.func34, Try.ntmps34
  go_wp2
  go_loopg [5, 6] 4 (fun g _ _ wx => ∃ i : Nat, i + g = 4 ∧ wx = w.iter CH i)
  case atStart => exact ⟨0, by omega, rfl⟩
  case round =>
    obtain ⟨i, hig, rfl⟩ := hrel
    cases gk with
    | zero =>
      obtain rfl : i = 4 := by omega
      have hnx := fun ty => run_next_end (P := Try.prog) w CH 4 ty (by decide)
      go_wp2
      go_ret
      exact ⟨rfl, hb 4⟩
    | succ g =>
      have hi : i < CH.size := by show i < 4; omega
      obtain ⟨x, hx, hx2⟩ : ∃ x : Nat, (CH[i]'hi).toNat = x ∧ x < 128 := ⟨_, rfl, ch_small i hi⟩
      have hnx := fun ty => run_next_ascii (P := Try.prog) w CH i ty hi (by omega)
      rw [hx] at hnx
      have t1 : ((x : Int) == 65533) = false := beq_eq_false_iff_ne.2 (by omega)
      go_wp2
      go_roundg g
      case measure => omega
      case rel => exact ⟨i + 1, by omega, rfl⟩

set_option maxHeartbeats 2000000 in
set_option maxRecDepth 100000 in
theorem rune_bad (r : Int) (w : World) (h0 : 128 ≤ r) (h2 : r ≠ 65533) (hv : Lib.validRune r = false) : Calls Try.prog 34 #[.string CH, .int .i32 r] w fun e w' => e = .returned (.int .i64 (-1)) ∧ Below w.heap.size w w' := by
  have H := hide (Try.utf8_ValidRune r w)
  rw [hv] at H
  have t1 : (r == 65533) = false := beq_eq_false_iff_ne.2 h2
  clear hv h2
  go_enter Try.func34, Try.ntmps34
  go_wp2_with (go_at_call 39; refine (unhide H).mono ?_; rintro e w' ⟨rfl, rfl⟩)
  go_ret
  exact ⟨rfl, Below.refl _ _⟩

set_option maxHeartbeats 2000000 in
set_option maxRecDepth 100000 in
theorem rune_good (r : Int) (w : World) (h0 : 128 ≤ r) (h2 : r ≠ 65533) (hv : Lib.validRune r = true) : Calls Try.prog 34 #[.string CH, .int .i32 r] w fun e w' => e = .returned (.int .i64 (-1)) ∧ Below w.heap.size w w' := by
  have H := hide (Try.utf8_ValidRune r w)
  have hv2 : Utf8.valid r = true := by
    unfold Lib.validRune at hv
    have := of_decide_eq_true hv
    unfold Utf8.valid
    simp; omega
  obtain ⟨e1, e2, e3⟩ := encode_facts r hv2 h0
  rw [hv] at H
  have t1 : (r == 65533) = false := beq_eq_false_iff_ne.2 h2
  have hconv : ∀ w, (convert 21 9 (.int .i32 r)).run Try.prog w = .ok (.string (Utf8.encode r)) w := fun w => run_convert_int_string w 21 9 .i32 r (by rw [Try.underlying21]; rfl) Try.underlying9
  obtain ⟨E, hE⟩ : ∃ E, E = Utf8.encode r := ⟨_, rfl⟩
  rw [← hE] at e1 e2 e3 hconv
  clear hv h2 hv2 hE
  go_enter Try.func34, Try.ntmps34
  go_wp2_with (go_at_call 39; refine (unhide H).mono ?_; rintro e w' ⟨rfl, rfl⟩)
  obtain ⟨m, hm⟩ : ∃ m, E.size = m + 1 := ⟨E.size - 1, by omega⟩
  have hm1 : 1 ≤ m := by omega
  have hm3 : m ≤ 3 := by omega
  have b1 : m < E.size := by omega
  have b2 : m < CH.size := by show m < 4; omega
  have hx : 128 ≤ (E[m]'b1).toNat := by
    have h2 := e3 (by omega)
    simpa [hm] using h2
  obtain ⟨x, hxe⟩ : ∃ x : UInt8, (E[m]'b1) = x := ⟨_, rfl⟩
  have tne : ((((CH[m]'b2).toNat : Nat) : Int) != ((x.toNat : Nat) : Int)) = true := by
    have h1 := ch_small m b2
    rw [hxe] at hx
    rw [bne_iff_ne]
    omega
  have c1 : (m : Int) < (E.size : Int) := by omega
  have c2 : (m : Int) < (CH.size : Int) := by omega
  have c3 : (m : Int) + 1 ≤ (CH.size : Int) := by omega
  have hidx : Lib.indexByte (CH.extract (m + 1) CH.size).data.toList x = -1 := idx_high (m + 1) x (by rw [← hxe]; exact hx)
  have hsz : (E.size : Int) = (m : Int) + 1 := by omega
  have hix : ∀ w, (Instr.index 9 (.string E) (.int .i64 (m : Int))).run Try.prog w = .ok (.int .u8 x.toNat) w := fun w => by
    rw [run_index_string (P := Try.prog) w 9 E .i64 (m : Int) Try.underlying9, dif_pos ⟨by omega, c1⟩, ← hxe]
    rfl
  have hsl : ∀ w, (Instr.slice 9 (.string CH) (some (.int .i64 ((m : Int) + 1))) none none).run Try.prog w = .ok (.string (CH.extract (m + 1) CH.size)) w := fun w => by
    rw [run_slice_string_l (P := Try.prog) w 9 CH Try.underlying9 .i64 ((m : Int) + 1) (by omega) c3]
    rfl
  have hib : ∀ W, Calls Try.prog 38 #[.string (CH.extract (m + 1) CH.size), .int .u8 x.toNat] W fun e w' => e = .returned (.int .i64 (-1)) ∧ w' = W := fun W => by
    have h := Try.strings_IndexByte (CH.extract (m + 1) CH.size) (x.toNat : Int) W
    have hb : ((x.toNat : Int)).toNat.toUInt8 = x := by simp
    rw [hb, hidx] at h
    exact h
  have HIB := hide hib
  clear hib hidx
  have hwr : IntKind.i64.wrap ((m : Int) + 1) = (m : Int) + 1 := wrap_small _ (by omega) (by omega)
  clear e1 e2 e3 hm hx
  go_step3
  go_wp2
  go_loopg [9, 10] 0 (fun g i f wr => w' = wr ∧ i = .int .i64 (m : Int) ∧ f = .int .i64 0)
  case atStart => exact ⟨rfl, by go_num, rfl⟩
  case round =>
    obtain ⟨rfl, rfl, rfl⟩ := hrel
    go_wp2
    go_step3
    go_wp2
    go_quiet (fail)
    go_wp2
    go_quiet (first | (go_at_call 38; exact (unhide HIB _).mono fun e w2 h => ⟨h.1, _, h.2⟩))
    go_wp2
    simp only [Exit.noGoto_ret, Exit.inBlock, Exit.then]
    go_ret
    exact ⟨rfl, Go.Zq.Below.drewN (Below.refl _ _) _⟩

end Go.Proofs.Qxb6600108a
