import Derived.Test.Qxb6600108aB1
namespace Go.Proofs.Qxb6600108a
set_option linter.unusedVariables false
set_option linter.unusedSimpArgs false
open Go.RowKit Go.Zq Go.Zp

theorem rune_high (r : Int) (w : World) (h0 : 128 ≤ r) : Calls Try.prog 34 #[.string CH, .int .i32 r] w fun e w' => e = .returned (.int .i64 (-1)) ∧ Below w.heap.size w w' := by
  by_cases h : r = 65533
  · subst h; exact rune_err w
  · cases hv : Lib.validRune r
    · exact rune_bad r w h0 h hv
    · exact rune_good r w h0 h hv

/-- 'next' over a string's iterator that lies in block b, in whatever world. -/
theorem run_next_gen (w : World) (s : ByteArray) (b pos : Nat) (ty : TypeId) (hb : w.heap[b]? = some (.stringIter s pos)) (h : pos < s.size) :
    ∃ w', (Instr.next (.pointer (some ⟨b, 0, none⟩)) true ty).run Try.prog w = .ok (.tuple #[.bool true, .int .i64 pos, .int .i32 (Utf8.decode s pos).1]) w' ∧
      w'.heap[b]? = some (.stringIter s (pos + (Utf8.decode s pos).2)) ∧ Below b w w' := by
  refine ⟨{ w with heap := w.heap.setIfInBounds b (.stringIter s (pos + (Utf8.decode s pos).2)) }, ?_, ?_, ?_⟩
  · simp only [Instr.next, getObj, setObj, Sem.run_bind, Sem.run, hb, Result.andThen, h, if_true]
    simp [goInt]
  · have hlt := (Array.getElem?_eq_some_iff.1 hb).1
    simp [hlt]
  · refine ⟨rfl, rfl, rfl, by simp, fun k hk => ?_⟩
    show (w.heap.setIfInBounds b _)[k]? = _
    rw [Array.getElem?_setIfInBounds, if_neg (by omega)]

theorem run_next_stop (w : World) (s : ByteArray) (b pos : Nat) (ty : TypeId) (hb : w.heap[b]? = some (.stringIter s pos)) (h : ¬ pos < s.size) :
    (Instr.next (.pointer (some ⟨b, 0, none⟩)) true ty).run Try.prog w = .ok (.tuple #[.bool false]) w := by
  simp [Instr.next, getObj, Sem.run, hb, h]

theorem ch_list : CH.data.toList = [44, 34, 13, 10] := rfl
theorem noany_skip {s : ByteArray} {i d : Nat} (hno : Lib.NoAny s.data.toList CH.data.toList i) (h : ∀ k b, k < d → s.data.toList[i + k]? = some b → 128 ≤ b.toNat) : Lib.NoAny s.data.toList CH.data.toList (i + d) := by
  intro j b hj hb
  by_cases hji : j < i
  · exact hno j b hji hb
  · have := h (j - i) b (by omega) (by rw [show i + (j - i) = j by omega]; exact hb)
    rw [ch_list]
    simp only [List.contains_cons, List.contains_nil, Bool.or_false, Bool.or_eq_false_iff, beq_eq_false_iff_ne]
    refine ⟨?_, ?_, ?_, ?_⟩ <;> (intro e; subst e; revert this; decide)

set_option maxHeartbeats 4000000 in
set_option maxRecDepth 100000 in
theorem any_short (s : ByteArray) (w : World) (h8 : s.size ≤ 8) :
    Calls Try.prog 33 #[.string s, .string CH] w fun e w' => e = .returned (.int .i64 (Lib.indexAny s.data.toList CH.data.toList)) ∧ Below w.heap.size w w' := by
  have hemp : CH.toList.isEmpty = false := by rw [Lib.toList_data]; rfl
  have hn1 : ((CH.size : Int) == 1) = false := by decide
  have h8z : decide ((8 : Int) < (s.size : Int)) = false := decide_eq_false (by omega)
  go_enter Try.func33, Try.ntmps33
  go_wp2_with (go_at_call 35; refine (Try.strings_shouldUseASCIISet _ _).mono ?_; rintro e w' ⟨rfl, hw⟩; rw [hw, h8z])
  go_loopg [9, 10] s.size (fun g _ _ wx => ∃ i : Nat, i ≤ i + g ∧ g = s.size - i ∧ wx.heap[w.heap.size]? = some (.stringIter s i) ∧ Below w.heap.size w wx ∧ Lib.NoAny s.data.toList CH.data.toList i)
  case atStart => exact ⟨0, by omega, rfl, World.iter_heap w s 0, (Below.refl _ _).alloc (Nat.le_refl _) _, Lib.NoAny.zero _ _⟩
  case round =>
    obtain ⟨i, _, hg, hit, hbel, hno⟩ := hrel
    obtain ⟨wA, hwA⟩ : ∃ wA, wA = wr := ⟨_, rfl⟩
    subst hwA
    have HN := hide hno
    clear hno
    by_cases hi : i < s.size
    · obtain ⟨wB, hnx, hit2, hbel2⟩ := run_next_gen wA s w.heap.size i 0 hit hi
      obtain ⟨x, hx⟩ : ∃ x : UInt8, s[i]'hi = x := ⟨_, rfl⟩
      have hxl : s.data.toList[i]? = some x := by rw [← hx]; exact Lib.data_getElem? s i hi
      have HB := hide (hbel.trans hbel2)
      clear hbel hbel2 hit
      by_cases hx128 : x.toNat < 128
      · have hdec := decode_ascii s i hi (by rw [hx]; exact hx128)
        rw [hx] at hdec
        rw [hdec] at hnx hit2
        have HIT := hide hit2
        have HXL := hide hxl
        clear hit2 hxl hdec hx
        have hcon := Lib.contains_iff_indexByte CH.data.toList x
        have hback : ((x.toNat : Int)).toNat.toUInt8 = x := by simp
        have HR := hide (Try.strings_IndexRune_ascii CH (x.toNat : Int) wB (by omega) (by omega))
        rw [hback] at HR
        clear hback
        cases hin : CH.data.toList.contains x
        · rw [hin] at hcon
          have hlt : ¬ ((0 : Int) ≤ Lib.indexByte CH.data.toList x) := of_decide_eq_false hcon.symm
          clear hcon
          have HIN := hide hin
          clear hin
          go_wp2_with (go_at_call 34; refine (unhide HR).mono ?_; rintro e w' ⟨rfl, rfl⟩)
          go_roundg (s.size - (i + 1))
          case measure => omega
          case rel => exact ⟨i + 1, by omega, rfl, unhide HIT, unhide HB, (unhide HN).succ (unhide HXL) (unhide HIN)⟩
        · rw [hin] at hcon
          have hge : (0 : Int) ≤ Lib.indexByte CH.data.toList x := of_decide_eq_true hcon.symm
          clear hcon
          have HIN := hide hin
          clear hin
          go_wp2_with (go_at_call 34; refine (unhide HR).mono ?_; rintro e w' ⟨rfl, rfl⟩)
          go_ret
          exact ⟨by rw [Lib.indexAny_hit (unhide HN) (unhide HXL) (unhide HIN)]; rfl, unhide HB⟩
      · have hh := decode_high s i hi (by rw [hx]; omega)
        have hskip := decode_skip s i hi (by rw [hx]; omega)
        obtain ⟨D, hD⟩ : ∃ D, D = Utf8.decode s i := ⟨_, rfl⟩
        rw [← hD] at hnx hit2 hh hskip
        have HIT := hide hit2
        have HSK := hide (noany_skip (unhide HN) hskip)
        have hsz := (Array.getElem?_eq_some_iff.1 hit2).1
        clear hit2 hxl hD hx hskip
        have HR := hide (rune_high (D.1 : Int) wB (by omega))
        obtain ⟨d1, d2⟩ := D
        simp only at hh
        go_wp2_with (go_at_call 34; refine (unhide HR).mono ?_; rintro e w' ⟨rfl, hB3⟩)
        go_roundg (s.size - (i + d2))
        case measure => omega
        case rel => exact ⟨i + d2, by omega, rfl, by rw [hB3.block _ hsz]; exact unhide HIT, (unhide HB).trans (hB3.mono (by omega)), unhide HSK⟩
    · have hnx := run_next_stop wA s w.heap.size i 0 hit hi
      clear hit
      go_wp2
      go_ret
      refine ⟨?_, hbel⟩
      rw [Lib.indexAny_none (fun j b hj hb => unhide HN j b (by rw [← Lib.size_eq] at hj; omega) hb)]
      rfl

set_option maxHeartbeats 1000000 in
theorem any_all (s : ByteArray) (w : World) (hs : s.size < 4294967281) :
    Calls Try.prog 33 #[.string s, .string CH] w fun e w' => e = .returned (.int .i64 (Lib.indexAny s.data.toList CH.data.toList)) ∧ Below w.heap.size w w' := by
  by_cases h8 : s.size ≤ 8
  · exact any_short s w h8
  · have h116 : (Try.prog.info? 47).map (fun i => (i.zero, i.size)) = some (some (.agg (Array.replicate 256 (.bool false))), 256) := by kernel_rfl
    refine (Try.strings_IndexAny_long (zero_of_info h116).1 s CH w (by decide) (by omega) hs (by decide) (fun j b hb => ?_)).mono fun e w' ⟨h1, h2⟩ => ⟨h1, ?_⟩
    · have hm := List.mem_of_getElem? hb
      clear hb
      revert b
      decide
    · rw [h2]
      exact ((Below.refl _ _).alloc (Nat.le_refl _) _).alloc (by simp) _

set_option maxHeartbeats 1000000 in
theorem contains_all (s : ByteArray) (w : World) (hs : s.size < 4294967281) :
    Calls Try.prog 32 #[.string s, .string CH] w fun e w' => e = .returned (.bool (Lib.containsAny s.data.toList CH.data.toList)) ∧ Below w.heap.size w w' := by
  have H := hide (any_all s w hs)
  clear hs
  go_enter Try.func32, Try.ntmps32
  go_wp2_with (go_at_call 33; refine (unhide H).mono ?_; rintro e w' ⟨rfl, hw⟩)
  go_ret
  exact ⟨rfl, hw⟩

end Go.Proofs.Qxb6600108a
