import Derived.Test.Qxb6600108aB5
namespace Go.Proofs.Qxb6600108a
set_option linter.unusedVariables false
set_option linter.unusedSimpArgs false
open Go.RowKit Go.Zq Go.Zp

theorem _root_.Go.Zq.Rd.step' {w w' : World} {a : Option Addr} {cap : Nat} {bs : List Int} (h : Rd w w.heap.size a cap bs) (hb : Below w.heap.size w w') : Rd w' w'.heap.size a cap bs := (h.keep hb).mono hb.size

theorem own_slice {base n : Nat} {w : World} {v : Value} {bs : List Int} (h : Own base w v bs) (hn : bs.length = n) : ∃ a c, v = .slice a n c ∧ Rd w w.heap.size a c bs := by
  obtain ⟨a, c, hv, hr⟩ := h.rd
  subst hn
  exact ⟨a, c, hv, hr⟩

/-- It returns a Boolean. -/
def BoolRet (e : Ending) : Prop := ∃ y, e = .returned (.bool y)
theorem BoolRet.mk (y : Bool) : BoolRet (.returned (.bool y)) := ⟨y, rfl⟩

set_option maxHeartbeats 1000000 in
theorem bytes19_any (s : ByteArray) (w : World) (h0 : s.size ≤ maxLen) :
    Calls Try.prog 19 #[.string s] w fun e w' => BoolRet e ∧ w = w' := by
  unfold maxLen at h0
  go_enter Try.func19, Try.ntmps19
  go_wp2
  all_goals (go_ret; first | exact ⟨BoolRet.mk false, rfl⟩ | exact ⟨BoolRet.mk true, rfl⟩)

theorem any_take (xs : List Int) (i : Nat) (h : i < xs.length) : (xs.take (i + 1)).any spc = ((xs.take i).any spc || spc (bat xs i)) := by
  rw [take_next xs i h, List.any_append]
  simp

set_option maxHeartbeats 4000000 in
theorem law6_main (s : ByteArray) (w : World) (hs : s.size ≤ 1048576) :
    Calls Try.prog 6 #[.string s] w fun e w' => e = .returned (.bool true) ∧ Below w.heap.size w w' := by
  have H := hide (bytes19_any s w (by unfold maxLen; omega))
  have HZ := hide (zz_app w.heap.size (.slice none 0 0) [] s w (Own.nil _ _) (Nat.le_refl _) hs (by simp))
  rw [List.nil_append] at HZ
  have HL := hide (sb_length s)
  obtain ⟨q, hq⟩ : ∃ q, (sb s).any spc = q := ⟨_, rfl⟩
  have key : ∀ (a : Option Addr) (n c : Nat) (W : World), Rd W W.heap.size a c (fld (sb s)) → (fld (sb s)).length = n →
      Calls Try.prog 21 #[.slice a n c] W fun e w' => ∃ a2 c2, e = .returned (.tuple #[.slice a2 s.size c2, .bool true]) ∧ Rd w' w'.heap.size a2 c2 (sb s) ∧ Below W.heap.size W w' := by
    intro a n c W hr hn
    cases q
    · have e : fld (sb s) = sb s := by unfold fld; rw [hq]; rfl
      rw [e] at hr hn
      refine (parse_plain a n c W.heap.size (sb s) W hr hn (by rw [← hn, sb_length]; omega) hq).mono ?_
      rintro e w' ⟨rfl, rfl⟩
      rw [sb_length] at hn
      subst hn
      exact ⟨a, c, rfl, hr, Below.refl _ _⟩
    · have e : fld (sb s) = 34 :: (dbl (sb s) ++ [34]) := by unfold fld; rw [hq]; rfl
      rw [e] at hr hn
      have hlen : (dbl (sb s)).length + 1 + 1 = n := by rw [← hn]; simp
      have hdl := dbl_length (sb s)
      rw [sb_length] at hdl
      rcases hr.cells with h0 | ⟨b', o', he, _, _⟩
      · simp at h0
      · subst he
        rw [← hlen]
        refine (parse_quoted b' o' _ c (sb s) W hr rfl (by omega)).mono ?_
        rintro e w' ⟨v, rfl, hown, hbel⟩
        obtain ⟨a2, c2, rfl, hr2⟩ := own_slice hown (sb_length s)
        exact ⟨a2, c2, rfl, hr2, hbel⟩
  have HK := hide key
  have hq0 : ∀ (a : Option Addr) (n c : Nat) (W : World), Rd W W.heap.size a c (fld (sb s)) → (fld (sb s)).length = n → (n = 0 ∧ q = false) ∨ (0 < n ∧ ∃ b o x, a = some ⟨b, o, none⟩ ∧ W.cell? ⟨b, o, none⟩ = some (.int .u8 x) ∧ (x == 34) = q) := by
    intro a n c W hr hn
    cases q
    · have e : fld (sb s) = sb s := by unfold fld; rw [hq]; rfl
      rw [e] at hr hn
      rcases Nat.eq_zero_or_pos n with h | h
      · exact .inl ⟨h, rfl⟩
      · right
        refine ⟨h, ?_⟩
        rcases hr.cells with h0 | ⟨b', o', he, _, hc⟩
        · omega
        · have := spc_34 (not_spc hq 0 (by omega))
          exact ⟨b', o', _, he, hc 0 (by omega), by simpa using this⟩
    · have e : fld (sb s) = 34 :: (dbl (sb s) ++ [34]) := by unfold fld; rw [hq]; rfl
      rw [e] at hr hn
      right
      refine ⟨by rw [← hn]; simp, ?_⟩
      rcases hr.cells with h0 | ⟨b', o', he, _, hc⟩
      · simp at h0
      · exact ⟨b', o', _, he, hc 0 (by simp), rfl⟩
  have HQ0 := hide hq0
  have HQ := hide hq
  have hfl : (fld (sb s)).length ≤ 3000000 := by
    have h1 := dbl_length (sb s)
    rw [sb_length] at h1
    unfold fld
    split
    · simp; omega
    · rw [sb_length]; omega
  obtain ⟨m, hm⟩ : ∃ m, (fld (sb s)).length = m := ⟨_, rfl⟩
  rw [hm] at hfl
  have HM := hide hm
  clear key hq0 hq hm
  go_enter Try.func6, Try.ntmps6
  go_wp2_with fail
  refine (unhide H).mono ?_
  rintro e w0 ⟨⟨y, rfl⟩, rfl⟩
  cases y
  · go_wp2
    go_ret
    exact ⟨rfl, Below.refl _ _⟩
  clear H
  go_wp2_with fail
  refine (unhide HZ).mono ?_
  rintro e w1 ⟨v1, rfl, hown1, hbel1⟩
  clear HZ
  obtain ⟨a1, c1, rfl, hr1⟩ := own_slice hown1 (unhide HM)
  go_wp2_with fail
  refine (unhide HK a1 m c1 w1 hr1 (unhide HM)).mono ?_
  rintro e w2 ⟨a2, c2, rfl, hr2, hbel2⟩
  have HS := hide (same_any a2 s.size c2 s w2 hr2 rfl (by omega))
  go_wp2_with fail
  refine (unhide HS).mono ?_
  rintro e w3 ⟨rfl, hbel3⟩
  have hr3 := (hr1.step' hbel2).step' hbel3
  have HO := hide (unhide HQ0 a1 m c1 w3 hr3 (unhide HM))
  have HA := hide ((hbel1.trans (hbel2.mono hbel1.size)).trans (hbel3.mono (Nat.le_trans hbel1.size hbel2.size)))
  clear hr1 hr2 hr3 hown1 hbel1 hbel2 hbel3 HS HK HQ0
  go_wp2
  go_loopg [6, 7] s.size (fun g nv iv wr => w3 = wr ∧ ∃ (i : Nat) (bb : Bool), i ≤ s.size ∧ iv = .int .i64 (i : Int) ∧ nv = .bool bb ∧ g = s.size - i ∧ Hid (((sb s).take i).any spc = bb))
  case atStart => exact ⟨rfl, 0, false, Nat.zero_le _, rfl, rfl, rfl, rfl⟩
  case round =>
    obtain ⟨rfl, i, bb, hi, rfl, rfl, rfl, HBB⟩ := hrel
    by_cases his : i < s.size
    · obtain ⟨x, hxe⟩ : ∃ x : UInt8, s[i]'his = x := ⟨_, rfl⟩
      have hbx : bat (sb s) i = (x.toNat : Int) := by rw [sb_at s i his, hxe]
      have HT := hide (any_take (sb s) i (by rw [unhide HL]; exact his))
      rw [hbx, unhide HBB] at HT
      have HP := hide (spc_any (x.toNat : Int) w3)
      clear hbx
      cases hsx : spc (x.toNat : Int)
      · rw [hsx] at HP HT
        clear hsx
        go_wp2_with (go_at_call 23; refine (unhide HP).mono ?_; rintro e w' ⟨rfl, rfl⟩)
        go_roundg (s.size - (i + 1))
        case measure => omega
        case rel => exact ⟨rfl, i + 1, bb, by omega, by go_num, rfl, rfl, by have := unhide HT; rw [Bool.or_false] at this; exact this⟩
      · rw [hsx] at HP HT
        clear hsx
        go_wp2_with (go_at_call 23; refine (unhide HP).mono ?_; rintro e w' ⟨rfl, rfl⟩)
        go_roundg (s.size - (i + 1))
        case measure => omega
        case rel => exact ⟨rfl, i + 1, true, by omega, by go_num, rfl, rfl, by have := unhide HT; rw [Bool.or_true] at this; exact this⟩
    · obtain rfl : i = s.size := by omega
      obtain rfl : bb = q := by
        have h1 := unhide HBB
        rw [← unhide HL, List.take_length, unhide HQ] at h1
        exact h1.symm
      rcases unhide HO with ⟨rfl, rfl⟩ | ⟨h0, b, o, x, rfl, hcell, tx⟩
      · clear HO HBB HQ
        go_wp2
        go_ret
        exact ⟨rfl, unhide HA⟩
      · clear HO HBB HQ
        cases bb
        all_goals
          go_wp2
          go_ret
          exact ⟨rfl, unhide HA⟩

set_option maxHeartbeats 1000000 in
theorem law6 (s : ByteArray) (w : World) (h0 : s.size ≤ maxLen) :
    Calls Try.prog 6 #[.string s] w fun e w' => e = .returned (.bool true) ∧ Below w.heap.size w w' := by
  by_cases hs : s.size ≤ 1048576
  · exact law6_main s w hs
  · have H := hide (bytes19_any s w h0)
    unfold maxLen at h0
    go_enter Try.func6, Try.ntmps6
    go_wp2_with fail
    refine (unhide H).mono ?_
    rintro e w0 ⟨⟨y, rfl⟩, rfl⟩
    cases y
    all_goals
      go_wp2
      go_ret
      exact ⟨rfl, Below.refl _ _⟩

end Go.Proofs.Qxb6600108a
