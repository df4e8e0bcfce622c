import Derived.Test.Qxb6600068aA2
namespace Go.Proofs.Qxb6600068a
set_option linter.unusedVariables false
set_option linter.unusedSimpArgs false
open Go.RowKit Go.Zq Go.Zp

theorem own_adr {base n : Nat} {w : World} {v : Value} {bs : List Int} (h : Own base w v bs) (hn : bs.length = n) : ∃ a c, v = .slice a n c ∧ Rd w w.heap.size a c bs ∧ Adr a := by
  obtain ⟨a, c, hv, hr⟩ := h.rd
  subst hn
  refine ⟨a, c, hv, hr, ?_⟩
  rcases h.2 with ⟨h1, _⟩ | ⟨g, cap, cur, h1, _⟩
  · rw [hv] at h1
    simp only [Value.slice.injEq] at h1
    exact .inl h1.1
  · rw [hv] at h1
    simp only [Value.slice.injEq] at h1
    exact .inr ⟨g, 0, h1.1⟩

theorem _root_.Go.Zq.Rd.step {w w' : World} {a : Option Addr} {cap : Nat} {bs : List Int} (h : Rd w w.heap.size a cap bs) (hb : Below w.heap.size w w') : Rd w' w'.heap.size a cap bs := (h.keep hb).mono hb.size

set_option maxHeartbeats 400000 in
theorem clone_any (base : Nat) (a : Option Addr) (n cap : Nat) (bs : List Int) (w : World) (B : Nat) (hr : Rd w B a cap bs) (hB : B ≤ w.heap.size) (hn : bs.length = n) (hs : n ≤ 1000000000) (hb : base ≤ w.heap.size) :
    Calls Try.prog 12 #[.slice a n cap] w fun e w' => ∃ v, e = .returned v ∧ Own base w' v bs ∧ Below w.heap.size w w' := by
  obtain ⟨i0, hi, hz0, hz1, hz2⟩ := info_parts Try.info5
  have q22 : ∀ (w : World) (a : Option Addr) (n c n' c' : Nat), (binOp .eql 22 (.slice a n c) (.slice none n' c')).run Try.prog w = .ok (.bool a.isNone) w := fun w a n c n' c' => Lib.run_eql_slice_nil w _ _ a n c n' c' Try.underlying22
  have Hn := hide hn
  clear hn
  rcases a with _ | x
  · go_enter Try.func12, Try.ntmps12
    go_wp2
    go_ret
    have h0 : bs = [] := List.eq_nil_of_length_eq_zero (by have := hr.le; have := hr.nil rfl; omega)
    subst h0
    exact ⟨_, rfl, Own.nil _ _, Below.refl _ _⟩
  · go_enter Try.func12, Try.ntmps12
    go_wp2_with (first | (at_make; refine wpList_make_full _ rfl _ _ 22 rfl w.heap.size 5 i0 (.int .u8 0) 1 Try.underlying22 hi hz0 hz1 _ _ _ _ n rfl rfl rfl rfl ?b2 ?b3 (Nat.le_refl _) ?_))
    case b2 => rw [hz2]; omega
    case b3 => unfold maxLen; omega
    intro w1 hown hg
    have hbel : Below w.heap.size w w1 := (Below.refl _ _).grown hg (Nat.le_refl _) (by simp)
    have hr1 := (hr.mono hB).keep hbel
    obtain ⟨w2, hrun, hown2, hg2⟩ := run_copy_full (P := Try.prog) w1 22 22 3 5 w.heap.size w.heap.size n cap (some x) (cellsB bs) _ Try.underlying22 Try.size5 hown (by rw [cellsB_length]; exact unhide Hn)
      (by
        have hs := hr1.src
        rcases hs.2 with ⟨h, _⟩ | ⟨ad, h, hc⟩
        · cases h
        · exact .inr ⟨ad, h, hc⟩) (cellsB_one _)
    have hbel2 : Below w.heap.size w w2 := hbel.grown hg2 hbel.size (by simp)
    clear hr1 hown hg hg2
    have HX := hide hown2
    clear hown2
    go_wp2
    go_ret
    exact ⟨_, rfl, (Own.of (unhide HX) (unhide Hn)).mono hb, hbel2⟩

theorem clone_rd (a : Option Addr) (n cap : Nat) (bs : List Int) (w : World) (hr : Rd w w.heap.size a cap bs) (hn : bs.length = n) (hs : n ≤ 1000000000) :
    Calls Try.prog 12 #[.slice a n cap] w fun e w' => ∃ a' cap', e = .returned (.slice a' n cap') ∧ Rd w' w'.heap.size a' cap' bs ∧ Adr a' ∧ Below w.heap.size w w' := by
  refine (clone_any 0 a n cap bs w w.heap.size hr (Nat.le_refl _) hn hs (Nat.zero_le _)).mono ?_
  rintro e w' ⟨v, rfl, hown, hb⟩
  obtain ⟨a', cap', rfl, hr', ha⟩ := own_adr hown hn
  exact ⟨a', cap', rfl, hr', ha, hb⟩

/-- It returns a Boolean. -/
def BoolRet (e : Ending) : Prop := ∃ y, e = .returned (.bool y)
theorem BoolRet.mk (y : Bool) : BoolRet (.returned (.bool y)) := ⟨y, rfl⟩

set_option maxHeartbeats 1000000 in
theorem bytes23_any (a0 : Option Addr) (n0 c0 : Nat) (w : World) (h0 : n0 ≤ maxLen) :
    Calls Try.prog 23 #[.slice a0 n0 c0] w fun e w' => BoolRet e ∧ w = w' := by
  unfold maxLen at h0
  go_enter Try.func23, Try.ntmps23
  go_wp2
  all_goals (go_ret; first | exact ⟨BoolRet.mk false, rfl⟩ | exact ⟨BoolRet.mk true, rfl⟩)
set_option maxHeartbeats 1000000 in
theorem bytes26_any (a0 a1 : Option Addr) (n0 c0 n1 c1 : Nat) (w : World) (h0 : n0 ≤ maxLen) (h1 : n1 ≤ maxLen) :
    Calls Try.prog 26 #[.slice a0 n0 c0, .slice a1 n1 c1] w fun e w' => BoolRet e ∧ w = w' := by
  unfold maxLen at h0 h1
  go_enter Try.func26, Try.ntmps26
  go_wp2
  all_goals (go_ret; first | exact ⟨BoolRet.mk false, rfl⟩ | exact ⟨BoolRet.mk true, rfl⟩)
set_option maxHeartbeats 1000000 in
theorem bytes27_any (a0 a1 : Option Addr) (n0 c0 n1 c1 : Nat) (w : World) (h0 : n0 ≤ maxLen) (h1 : n1 ≤ maxLen) :
    Calls Try.prog 27 #[.slice a0 n0 c0, .slice a1 n1 c1] w fun e w' => BoolRet e ∧ w = w' := by
  unfold maxLen at h0 h1
  go_enter Try.func27, Try.ntmps27
  go_wp2
  all_goals (go_ret; first | exact ⟨BoolRet.mk false, rfl⟩ | exact ⟨BoolRet.mk true, rfl⟩)

theorem ends_ex (bs : List Int) : ∃ r, Ends bs r := by
  rcases qt_or bs with ⟨q, h⟩ | h
  · exact ⟨_, Ends.qt h⟩
  · exact ⟨_, Ends.no h⟩

set_option maxHeartbeats 2000000 in
theorem law8 (a0 : Option Addr) (n0 c0 : Nat) (bs : List Int) (w : World) (hr0 : Rd w w.heap.size a0 c0 bs) (hn0 : bs.length = n0) (g0 : ∀ c ∈ bs, 0 ≤ c ∧ c < 256) :
    Calls Try.prog 8 #[.slice a0 n0 c0] w fun e w' => e = .returned (.bool true) ∧ Below w.heap.size w w' := by
  have hmx : n0 ≤ maxLen := by have := hr0.le; have := hr0.max; omega
  have H := hide (bytes23_any a0 n0 c0 w hmx)
  obtain ⟨r, hE⟩ := ends_ex bs
  unfold maxLen at hmx
  by_cases hb : n0 ≤ 1048576
  · have HC := hide (clone_rd a0 n0 c0 bs w hr0 hn0 (by omega))
    have HN := hide hn0
    have HE := hide hE
    have HG := hide g0
    clear hr0 hn0 hE g0
    go_enter Try.func8, Try.ntmps8
    go_wp2_with fail
    refine (unhide H).mono ?_
    rintro e w0 ⟨⟨y, rfl⟩, rfl⟩
    cases y
    · go_wp2
      go_ret
      exact ⟨rfl, Below.refl _ _⟩
    clear H
    go_wp2_with fail
    refine (unhide HC).mono ?_
    rintro e w1 ⟨a', c', rfl, hr1, ha1, hbel1⟩
    have HZ := hide (zz_any w1 _ a' n0 c' r bs hr1 ha1 (unhide HN) (by omega) (unhide HG) (unhide HE))
    have HS := hide (scan_any w1 _ a' n0 c' r bs hr1 (unhide HN) (by omega) (unhide HE))
    clear hr1 ha1 HC HN HE HG
    go_wp2_with (first
      | (go_at_call 24; refine (unhide HZ).mono ?_; rintro e w2 ⟨rfl, rfl⟩)
      | (go_at_call 25; refine (unhide HS).mono ?_; rintro e w2 ⟨rfl, rfl⟩))
    go_ret
    exact ⟨rfl, hbel1⟩
  · clear hr0 hn0 hE g0
    go_enter Try.func8, Try.ntmps8
    go_wp2_with fail
    refine (unhide H).mono ?_
    rintro e w0 ⟨⟨y, rfl⟩, rfl⟩
    cases y
    all_goals
      go_wp2
      go_ret
      exact ⟨rfl, Below.refl _ _⟩

end Go.Proofs.Qxb6600068a
