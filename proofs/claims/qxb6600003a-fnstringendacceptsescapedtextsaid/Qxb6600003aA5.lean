import Derived.Test.Qxb6600003aA4
namespace Go.Proofs.Qxb6600003a
set_option linter.unusedVariables false
set_option linter.unusedSimpArgs false
open Go.RowKit Go.Zq Go.Zp

set_option maxHeartbeats 1000000 in
set_option maxRecDepth 100000 in
theorem valEnd_any (w : World) (B b o n cap p q : Nat) (bs : List Int) (hr : Rd w B (some ⟨b, o, none⟩) cap bs) (hn : bs.length = n) (hl : n ≤ 1000000000000) (hrg : ∀ c ∈ bs, 0 ≤ c ∧ c < 256) (hp : bat bs p = 34) (hQ : Cq bs p q) :
    Calls Try.prog 32 #[.slice (some ⟨b, o, none⟩) n cap, .int .i64 (p : Int)] w fun e w' => e = .returned (.int .i64 ((q : Int) + 1)) ∧ w = w' := by
  have hpn : p < n := by have := hQ.lt; have := hQ.len; omega
  have hqn : q < n := by have := hQ.len; omega
  have hcell := rd_cell hr p (by omega)
  rw [hp] at hcell
  have H := hide (close_any w B b o n cap p q bs hr hn hl hrg hQ)
  clear hr hn hrg hp hQ
  go_enter Try.func32, Try.ntmps32
  go_wp2_with (go_at_call 39; refine (unhide H).mono ?_; rintro e w' ⟨rfl, rfl⟩)
  go_ret
  exact ⟨rfl, rfl⟩

set_option maxHeartbeats 400000 in
theorem zzVal_any (w : World) (B b o n cap p q : Nat) (bs : List Int) (hr : Rd w B (some ⟨b, o, none⟩) cap bs) (hn : bs.length = n) (hl : n ≤ 1000000000000) (hrg : ∀ c ∈ bs, 0 ≤ c ∧ c < 256) (hp : bat bs p = 34) (hQ : Cq bs p q) :
    Calls Try.prog 15 #[.slice (some ⟨b, o, none⟩) n cap, .int .i64 (p : Int)] w fun e w' => e = .returned (.int .i64 ((q : Int) + 1)) ∧ w = w' := by
  have H := hide (valEnd_any w B b o n cap p q bs hr hn hl hrg hp hQ)
  clear hr hn hrg hp hQ
  go_enter Try.func15, Try.ntmps15
  go_wp2_with (go_at_call 32; refine (unhide H).mono ?_; rintro e w' ⟨rfl, rfl⟩)
  go_ret
  exact ⟨rfl, rfl⟩

/-- It returns a Boolean. -/
def BoolRet (e : Ending) : Prop := ∃ y, e = .returned (.bool y)
theorem BoolRet.mk (y : Bool) : BoolRet (.returned (.bool y)) := ⟨y, rfl⟩

set_option maxHeartbeats 1000000 in
theorem bytes12_any (a0 a1 a2 a3 : Option Addr) (n0 c0 n1 c1 n2 c2 n3 c3 : Nat) (w : World) (h0 : n0 ≤ maxLen) (h1 : n1 ≤ maxLen) (h2 : n2 ≤ maxLen) (h3 : n3 ≤ maxLen) :
    Calls Try.prog 12 #[.slice a0 n0 c0, .slice a1 n1 c1, .slice a2 n2 c2, .slice a3 n3 c3] w fun e w' => BoolRet e ∧ w = w' := by
  unfold maxLen at h0 h1 h2 h3
  go_enter Try.func12, Try.ntmps12
  go_wp2
  all_goals (go_ret; first | exact ⟨BoolRet.mk false, rfl⟩ | exact ⟨BoolRet.mk true, rfl⟩)

set_option maxHeartbeats 2000000 in
theorem law3_early (a0 a1 a2 a3 : Option Addr) (n0 c0 n1 c1 n2 c2 n3 c3 : Nat) (w : World) (h0 : n0 ≤ maxLen) (h1 : n1 ≤ maxLen) (h2 : n2 ≤ maxLen) (h3 : n3 ≤ maxLen)
    (hbig : 65536 < n0 ∨ 65536 < n1 ∨ 65536 < n2 ∨ 65536 < n3) :
    Calls Try.prog 3 #[.slice a0 n0 c0, .slice a1 n1 c1, .slice a2 n2 c2, .slice a3 n3 c3] w fun e w' => e = .returned (.bool true) ∧ Below w.heap.size w w' := by
  have H := hide (bytes12_any a0 a1 a2 a3 n0 c0 n1 c1 n2 c2 n3 c3 w h0 h1 h2 h3)
  have HB := hide hbig
  unfold maxLen at h0 h1 h2 h3
  clear hbig
  go_enter Try.func3, Try.ntmps3
  go_wp2_with fail
  refine (unhide H).mono ?_
  rintro e w1 ⟨⟨y, rfl⟩, rfl⟩
  cases y
  · go_wp2
    go_ret
    exact ⟨rfl, Below.refl _ _⟩
  · rcases (show 65536 < n0 ∨ (n0 ≤ 65536 ∧ 65536 < n1) ∨ (n0 ≤ 65536 ∧ n1 ≤ 65536 ∧ 65536 < n2) ∨ (n0 ≤ 65536 ∧ n1 ≤ 65536 ∧ n2 ≤ 65536 ∧ 65536 < n3) from by have := unhide HB; omega) with h | ⟨ha, h⟩ | ⟨ha, hb, h⟩ | ⟨ha, hb, hc, h⟩
    all_goals
      go_wp2
      go_ret
      exact ⟨rfl, Below.refl _ _⟩

theorem shape {base n : Nat} {w : World} {v : Value} {bs : List Int} (h : Own base w v bs) (hn : bs.length = n) : ∃ a c, v = .slice a n c := by
  obtain ⟨a, c, h, _⟩ := h.rd
  subst hn
  exact ⟨a, c, h⟩
theorem rd_head {w : World} {B cap : Nat} {a : Option Addr} {bs : List Int} (h : Rd w B a cap bs) (h0 : 0 < bs.length) : ∃ b o, a = some ⟨b, o, none⟩ := by
  rcases h.cells with h1 | ⟨b, o, rfl, _⟩
  · omega
  · exact ⟨b, o, rfl⟩

set_option maxHeartbeats 4000000 in
theorem law3_main (a0 a1 a2 a3 : Option Addr) (n0 c0 n1 c1 n2 c2 n3 c3 : Nat) (ps ss fs ts : List Int) (w : World) (h0 : n0 ≤ 65536) (h1 : n1 ≤ 65536) (h2 : n2 ≤ 65536) (h3 : n3 ≤ 65536)
    (hr0 : Rd w w.heap.size a0 c0 ps) (hn0 : ps.length = n0) (hr1 : Rd w w.heap.size a1 c1 ss) (hn1 : ss.length = n1) (hr2 : Rd w w.heap.size a2 c2 fs) (hn2 : fs.length = n2) (hr3 : Rd w w.heap.size a3 c3 ts) (hn3 : ts.length = n3)
    (g0 : ∀ c ∈ ps, 0 ≤ c ∧ c < 256) (g1 : ∀ c ∈ ss, 0 ≤ c ∧ c < 256) (g3 : ∀ c ∈ ts, 0 ≤ c ∧ c < 256) :
    Calls Try.prog 3 #[.slice a0 n0 c0, .slice a1 n1 c1, .slice a2 n2 c2, .slice a3 n3 c3] w fun e w' => e = .returned (.bool true) ∧ Below w.heap.size w w' := by
  have H := hide (bytes12_any a0 a1 a2 a3 n0 c0 n1 c1 n2 c2 n3 c3 w (by unfold maxLen; omega) (by unfold maxLen; omega) (by unfold maxLen; omega) (by unfold maxLen; omega))
  have HN := hide (And.intro hn0 (And.intro hn1 (And.intro hn2 hn3)))
  have HG := hide (And.intro g0 (And.intro g1 g3))
  clear hn0 hn1 hn2 hn3 g0 g1 g3
  obtain ⟨i0, hi, hz0, hz1, hz2⟩ := info_parts Try.info5
  have hbel0 := Below.refl w.heap.size w
  go_enter Try.func3, Try.ntmps3
  go_wp2_with fail
  refine (unhide H).mono ?_
  rintro e w0 ⟨⟨y, rfl⟩, rfl⟩
  cases y
  · go_wp2
    go_ret
    exact ⟨rfl, Below.refl _ _⟩
  clear H
  go_wp2_with (first
    | (at_make; refine wpList_make_own _ rfl _ _ 22 rfl w.heap.size 5 i0 (.int .u8 0) 1 Try.underlying22 hi hz0 hz1 _ _ _ (n0 + 6 * n1 + 2 + n3) rfl rfl (by omega) (by rw [hz2]; omega) (by unfold maxLen; omega) (Nat.le_refl _) ?_; intro w1 hown1 hg1; have hbel1 := hbel0.grown hg1 (Nat.le_refl _) (by simp); have hsz1 := hbel1.size)
    | (at_builtin; refine wpList_append_rd _ rfl (.tmp 43) (.tmp 44) 22 rfl w.heap.size Try.underlying22 Try.info5 _ [] ps _ n0 _ w.heap.size w rfl rfl (hr0.keep hbel1) (unhide HN).1 hown1 hbel1 (by simp; omega) hsz1 ?_; intro v2 w2 hown2 hbel2 hsz2; rw [List.nil_append] at hown2; obtain ⟨av, cv, rfl⟩ := shape hown2 (unhide HN).1)
    | (go_at_call 13; refine (esc_any w.heap.size _ ps a1 a2 n1 c1 n2 c2 w.heap.size ss fs _ hown2 hsz2 (hr1.keep hbel2) (unhide HN).2.1 (hr2.keep hbel2) (unhide HN).2.2.1 (Nat.le_refl _) (unhide HG).2.1 (by omega) (by omega) (by have := (unhide HN).1; omega)).mono ?_; rintro e w3 ⟨v3, X, rfl, hown3, hbelx, hX⟩; have hbel3 := hbel2.trans hbelx; have hsz3 := hbel3.size; have hXl := hX.len; obtain ⟨m, hm⟩ : ∃ m, X.length = m := ⟨_, rfl⟩; rw [hm] at hXl; have HM := hide hm; clear hm; obtain ⟨ax, cx, rfl⟩ := shape (n := n0 + 2 + m) hown3 (by have := unhide HM; have := (unhide HN).1; simp; omega))
    | (at_builtin; refine wpList_append_rd _ rfl (.tmp 54) (.tmp 55) 22 rfl w.heap.size Try.underlying22 Try.info5 _ (((ps ++ [34]) ++ X) ++ [34]) ts _ n3 _ w.heap.size w rfl rfl (hr3.keep hbel3) (unhide HN).2.2.2 hown3 hbel3 (by have := unhide HM; have := (unhide HN).1; simp; omega) hsz3 ?_; intro v4 w4 hown4 hbel4 hsz4))
  obtain ⟨D, hD⟩ : ∃ D, D = (((ps ++ [34]) ++ X) ++ [34]) ++ ts := ⟨_, rfl⟩
  rw [← hD] at hown4
  have hDl : D.length = n0 + 2 + m + n3 := by rw [hD]; have := unhide HM; have := unhide HN; simp; omega
  have hdrop : D.drop (n0 + 1) = X ++ 34 :: ts := by
    rw [hD, ← (unhide HN).1, show ((ps ++ [34] ++ X ++ [34]) ++ ts) = (ps ++ [34]) ++ (X ++ 34 :: ts) by simp]
    rw [show ps.length + 1 = (ps ++ [34]).length by simp, List.drop_left]
  have hbp : bat D n0 = 34 := by
    rw [hD, ← (unhide HN).1, show ((ps ++ [34] ++ X ++ [34]) ++ ts) = ps ++ (34 :: (X ++ 34 :: ts)) by simp]
    have := bat_append_right ps (34 :: (X ++ 34 :: ts)) 0
    rw [Nat.add_zero] at this
    rw [this]; rfl
  have hV : strV (D.drop (n0 + 1)) 0 = some (m + 1) := by
    rw [hdrop, hX.ok, unhide HM, strV0, if_pos rfl]; simp; omega
  have hCq : Cq D n0 (n0 + 1 + m) := by
    have := Cq.of D X ts n0 hdrop hX.pas
    rw [unhide HM] at this; exact this
  have hDg : ∀ c ∈ D, 0 ≤ c ∧ c < 256 := by
    intro c hc
    rw [hD] at hc
    simp only [List.mem_append, List.mem_singleton] at hc
    rcases hc with (((h | h) | h) | h) | h
    · exact (unhide HG).1 c h
    · subst h; omega
    · exact hX.rng c h
    · subst h; omega
    · exact (unhide HG).2.2 c h
  clear hdrop hD hX hown1 hown2 hown3 hg1 hbelx
  have hex : ∃ b o c, v4 = .slice (some ⟨b, o, none⟩) (n0 + 2 + m + n3) c ∧ Rd w4 w4.heap.size (some ⟨b, o, none⟩) c D := by
    obtain ⟨a, c, h, hr⟩ := hown4.rd
    obtain ⟨b, o, rfl⟩ := rd_head hr (by omega)
    rw [hDl] at h
    exact ⟨b, o, c, h, hr⟩
  obtain ⟨bo, oo, cO, rfl, hrD⟩ := hex
  have HS := hide (zzStr_any w4 w4.heap.size bo oo (n0 + 2 + m + n3) cO n0 (m + 1) D hrD hDl (by omega) hV)
  have HV := hide (zzVal_any w4 w4.heap.size bo oo (n0 + 2 + m + n3) cO n0 (n0 + 1 + m) D hrD hDl (by omega) hDg hbp hCq)
  clear hV hCq hDg hbp hDl hrD hown4
  go_wp2_with fail
  refine (unhide HS).mono ?_
  rintro e w5 ⟨rfl, rfl⟩
  go_wp2_with fail
  refine (unhide HV).mono ?_
  rintro e w5 ⟨rfl, rfl⟩
  go_wp2
  go_ret
  refine ⟨?_, hbel4⟩
  show Ending.returned (Value.bool ((n0 : Int) + 1 + (m : Int) + 1 == (n0 : Int) + 2 + (m : Int))) = _
  rw [beq_iff_eq.2 (show (n0 : Int) + 1 + (m : Int) + 1 = (n0 : Int) + 2 + (m : Int) by omega)]

end Go.Proofs.Qxb6600003a
