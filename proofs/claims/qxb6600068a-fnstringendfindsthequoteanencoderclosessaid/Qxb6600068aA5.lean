import Derived.Test.Qxb6600068aA3
namespace Go.Proofs.Qxb6600068a
set_option linter.unusedVariables false
set_option linter.unusedSimpArgs false
open Go.RowKit Go.Zq Go.Zp

set_option maxHeartbeats 2000000 in
theorem law10_early (a0 a1 : Option Addr) (n0 c0 n1 c1 : Nat) (w : World) (h0 : n0 ≤ maxLen) (h1 : n1 ≤ maxLen) (hbig : 262144 < n0 ∨ 262144 < n1) :
    Calls Try.prog 10 #[.slice a0 n0 c0, .slice a1 n1 c1] w fun e w' => e = .returned (.bool true) ∧ Below w.heap.size w w' := by
  have H := hide (bytes27_any a0 a1 n0 c0 n1 c1 w h0 h1)
  have HB := hide hbig
  unfold maxLen at h0 h1
  clear hbig
  go_enter Try.func10, Try.ntmps10
  go_wp2_with fail
  refine (unhide H).mono ?_
  rintro e w1 ⟨⟨y, rfl⟩, rfl⟩
  cases y
  · go_wp2
    go_ret
    exact ⟨rfl, Below.refl _ _⟩
  · rcases (show 262144 < n0 ∨ (n0 ≤ 262144 ∧ 262144 < n1) from by have := unhide HB; omega) with h | ⟨ha, h⟩
    all_goals
      go_wp2
      go_ret
      exact ⟨rfl, Below.refl _ _⟩

theorem shape {base n : Nat} {w : World} {v : Value} {bs : List Int} (h : Own base w v bs) (hn : bs.length = n) : ∃ a c, v = .slice a n c := by
  obtain ⟨a, c, h, _⟩ := h.rd
  subst hn
  exact ⟨a, c, h⟩

set_option maxHeartbeats 4000000 in
theorem law10_main (a0 a1 : Option Addr) (n0 c0 n1 c1 : Nat) (ds ts : List Int) (w : World) (h0 : n0 ≤ 262144) (h1 : n1 ≤ 262144)
    (hr0 : Rd w w.heap.size a0 c0 ds) (hn0 : ds.length = n0) (hr1 : Rd w w.heap.size a1 c1 ts) (hn1 : ts.length = n1)
    (g0 : ∀ c ∈ ds, 0 ≤ c ∧ c < 256) (g1 : ∀ c ∈ ts, 0 ≤ c ∧ c < 256) :
    Calls Try.prog 10 #[.slice a0 n0 c0, .slice a1 n1 c1] w fun e w' => e = .returned (.bool true) ∧ Below w.heap.size w w' := by
  have H := hide (bytes27_any a0 a1 n0 c0 n1 c1 w (by unfold maxLen; omega) (by unfold maxLen; omega))
  have HC := hide (clone_rd a0 n0 c0 ds w hr0 hn0 (by omega))
  have HN := hide (And.intro hn0 hn1)
  have HG := hide (And.intro g0 g1)
  have HR1 := hide hr1
  clear hn0 hn1 g0 g1 hr0 hr1
  obtain ⟨i0, hi, hz0, hz1, hz2⟩ := info_parts Try.info5
  go_enter Try.func10, Try.ntmps10
  go_wp2_with fail
  refine (unhide H).mono ?_
  rintro e w0 ⟨⟨y, rfl⟩, rfl⟩
  cases y
  · go_wp2
    go_ret
    exact ⟨rfl, Below.refl _ _⟩
  clear H
  go_wp2_with fail
  refine (unhide HC).mono ?_
  rintro e w1 ⟨aD, cD, rfl, hrD, haD, hbel1⟩
  have HC1 := hide (clone_rd a1 n1 c1 ts w1 ((unhide HR1).step hbel1) (unhide HN).2 (by omega))
  clear HC HR1
  go_wp2_with fail
  refine (unhide HC1).mono ?_
  rintro e w2 ⟨aT, cT, rfl, hrT, haT, hbel2⟩
  have hrD2 := hrD.step hbel2
  have hbelA : Below w.heap.size w w2 := hbel1.trans (hbel2.mono hbel1.size)
  have hbel20 := Below.refl w2.heap.size w2
  clear HC1 hrD hbel1 hbel2
  go_wp2_with (at_make; refine wpList_make_own _ rfl _ _ 22 rfl w2.heap.size 5 i0 (.int .u8 0) 1 Try.underlying22 hi hz0 hz1 _ _ _ (2 * n0 + 1 + n1) rfl rfl (by omega) (by rw [hz2]; omega) (by unfold maxLen; omega) (Nat.le_refl _) ?_; intro w3 hown3 hg3; have hbel3 := hbel20.grown hg3 (Nat.le_refl _) (by simp); have hsz3 := hbel3.size)
  have HRD := hide hrD2
  have HRT := hide hrT
  have HA := hide hbelA
  clear hrD2 hrT hbelA hbel20 hg3 haD haT
  go_loopg [5, 6] n0 (fun g bv kv wr => ∃ (k : Nat) (X : List Int), k ≤ n0 ∧ kv = .int .i64 (k : Int) ∧ g = n0 - k ∧ Own w2.heap.size wr bv X ∧ Below w2.heap.size w2 wr ∧ X.length ≤ 2 * k ∧ Hid (Pas X ∧ ∀ c ∈ X, 0 ≤ c ∧ c < 256))
  case atStart => exact ⟨0, [], Nat.zero_le _, rfl, rfl, Own.of hown3 rfl, hbel3, by simp, Pas.nil, by simp⟩
  case round =>
    obtain ⟨k, X, hk, rfl, rfl, hownX, hbelX, hXl, HX⟩ := hrel
    have hszX := hbelX.size
    by_cases hkn : k < n0
    · obtain ⟨b, o, rfl, hcell⟩ : ∃ b o, aD = some ⟨b, o, none⟩ ∧ ∀ W, Below w2.heap.size w2 W → W.cell? ⟨b, o + k, none⟩ = some (.int .u8 (bat ds k)) := by
        have hr := unhide HRD
        have hn := (unhide HN).1
        rcases hr.cells with h0 | ⟨b', o', he, _, hc⟩
        · omega
        · refine ⟨b', o', he, fun W hW => ?_⟩
          rcases (hr.keep hW).cells with h0 | ⟨b2, o2, he2, _, hc2⟩
          · omega
          · rw [he] at he2; cases he2; exact hc2 k (by omega)
      have hcX := hcell wr hbelX
      have hrg := (unhide HG).1 (bat ds k) (bat_mem ds k (by have := (unhide HN).1; omega))
      have HRG := hide hrg
      clear hrg hcell
      by_cases hq : bat ds k = 34 ∨ bat ds k = 92
      · have HX2 : Hid (Pas ((X ++ [92]) ++ [bat ds k]) ∧ ∀ c ∈ ((X ++ [92]) ++ [bat ds k]), 0 ≤ c ∧ c < 256) := by
          have hrg := unhide HRG
          refine ⟨?_, fun c hc => ?_⟩
          · rw [List.append_assoc]; exact (unhide HX).1.append (Pas.two _)
          · simp only [List.mem_append, List.mem_singleton] at hc
            rcases hc with (h | h) | h
            · exact (unhide HX).2 c h
            · subst h; omega
            · subst h; exact hrg
        have HL2 : Hid (((X ++ [92]) ++ [bat ds k]).length ≤ 2 * (k + 1)) := by unfold Hid; simp; omega
        rcases (show (bat ds k == 34) = true ∨ ((bat ds k == 34) = false ∧ (bat ds k == 92) = true) from by
          rcases hq with h | h
          · exact .inl (beq_iff_eq.2 h)
          · exact .inr ⟨beq_eq_false_iff_ne.2 (by omega), beq_iff_eq.2 h⟩) with t1 | ⟨t1, t2⟩
        all_goals
          clear hq
          go_wp2_with (first
            | (at_builtin; refine wpList_append_lit _ rfl (.tmp 47) (.tmp 48) 22 rfl w2.heap.size Try.underlying22 Try.info5 _ X [92] 1 _ w2 rfl rfl rfl rfl hownX hbelX (by omega) hszX ?_; intro v4 w4 hown4 hbel4 hsz4)
            | (at_builtin; refine wpList_append_lit _ rfl (.tmp 50) (.tmp 52) 22 rfl w2.heap.size Try.underlying22 Try.info5 _ (X ++ [92]) [bat ds k] 1 _ w2 rfl rfl rfl rfl hown4 hbel4 (by simp; omega) hsz4 ?_; intro v5 w5 hown5 hbel5 hsz5))
          go_roundg (n0 - (k + 1))
          case measure => omega
          case rel => exact ⟨k + 1, _, by omega, by go_num, rfl, hown5, hbel5, unhide HL2, unhide HX2⟩
      · have t1 : (bat ds k == 34) = false := beq_eq_false_iff_ne.2 (fun h => hq (.inl h))
        have t2 : (bat ds k == 92) = false := beq_eq_false_iff_ne.2 (fun h => hq (.inr h))
        have HX2 : Hid (Pas (X ++ [bat ds k]) ∧ ∀ c ∈ (X ++ [bat ds k]), 0 ≤ c ∧ c < 256) := by
          have hrg := unhide HRG
          refine ⟨(unhide HX).1.append (Pas.raw (fun h => hq (.inl h)) (fun h => hq (.inr h))), fun c hc => ?_⟩
          simp only [List.mem_append, List.mem_singleton] at hc
          rcases hc with h | h
          · exact (unhide HX).2 c h
          · subst h; exact hrg
        have HL2 : Hid ((X ++ [bat ds k]).length ≤ 2 * (k + 1)) := by unfold Hid; simp; omega
        clear hq
        go_wp2_with (at_builtin; refine wpList_append_lit _ rfl (.tmp 50) (.tmp 52) 22 rfl w2.heap.size Try.underlying22 Try.info5 _ X [bat ds k] 1 _ w2 rfl rfl rfl rfl hownX hbelX (by omega) hszX ?_; intro v5 w5 hown5 hbel5 hsz5)
        go_roundg (n0 - (k + 1))
        case measure => omega
        case rel => exact ⟨k + 1, _, by omega, by go_num, rfl, hown5, hbel5, unhide HL2, unhide HX2⟩
    · obtain rfl : k = n0 := by omega
      obtain ⟨m, hm⟩ : ∃ m, X.length = m := ⟨_, rfl⟩
      obtain ⟨av, cv, rfl⟩ := shape hownX hm
      have HM := hide hm
      rw [hm] at hXl
      have hrT := unhide HRT
      clear hm
      go_wp2_with (first
        | (at_builtin; refine wpList_append_lit _ rfl (.tmp 56) (.tmp 57) 22 rfl w2.heap.size Try.underlying22 Try.info5 _ X [34] 1 _ w2 rfl rfl rfl rfl hownX hbelX (by have := unhide HM; omega) hszX ?_; intro v4 w4 hown4 hbel4 hsz4)
        | (at_builtin; refine wpList_append_rd _ rfl (.tmp 59) (.tmp 60) 22 rfl w2.heap.size Try.underlying22 Try.info5 _ (X ++ [34]) ts _ n1 _ w2.heap.size w2 rfl rfl (hrT.keep hbel4) (unhide HN).2 hown4 hbel4 (by have := unhide HM; simp; omega) hsz4 ?_; intro v5 w5 hown5 hbel5 hsz5))
      obtain ⟨aJ, cJ, rfl, hrJ, haJ⟩ := own_adr (n := m + 1 + n1) hown5 (by have := unhide HM; have := (unhide HN).2; simp; omega)
      have hQ : Ends ((X ++ [34]) ++ ts) (m : Int) := by
        have := Qt.of X ts (unhide HX).1
        rw [unhide HM] at this
        rw [List.append_assoc]
        exact Ends.qt this
      have hg : ∀ c ∈ ((X ++ [34]) ++ ts), 0 ≤ c ∧ c < 256 := by
        intro c hc
        simp only [List.mem_append, List.mem_singleton] at hc
        rcases hc with (h | h) | h
        · exact (unhide HX).2 c h
        · subst h; omega
        · exact (unhide HG).2 c h
      have HZ := hide (zz_any w5 _ aJ (m + 1 + n1) cJ (m : Int) _ hrJ haJ (by have := unhide HM; have := (unhide HN).2; simp; omega) (by omega) hg hQ)
      clear hrJ haJ hQ hg hown5
      go_wp2_with (go_at_call 24; refine (unhide HZ).mono ?_; rintro e w6 ⟨rfl, rfl⟩)
      go_ret
      exact ⟨rfl, (unhide HA).trans (hbel5.mono (unhide HA).size)⟩

theorem law10 (a0 a1 : Option Addr) (n0 c0 n1 c1 : Nat) (ds ts : List Int) (w : World) 
    (hr0 : Rd w w.heap.size a0 c0 ds) (hn0 : ds.length = n0) (hr1 : Rd w w.heap.size a1 c1 ts) (hn1 : ts.length = n1)
    (g0 : ∀ c ∈ ds, 0 ≤ c ∧ c < 256) (g1 : ∀ c ∈ ts, 0 ≤ c ∧ c < 256) :
    Calls Try.prog 10 #[.slice a0 n0 c0, .slice a1 n1 c1] w fun e w' => e = .returned (.bool true) ∧ Below w.heap.size w w' := by
  by_cases h : n0 ≤ 262144 ∧ n1 ≤ 262144
  · exact law10_main a0 a1 n0 c0 n1 c1 ds ts w h.1 h.2 hr0 hn0 hr1 hn1 g0 g1
  · exact law10_early a0 a1 n0 c0 n1 c1 w (by have := hr0.le; have := hr0.max; omega) (by have := hr1.le; have := hr1.max; omega) (by omega)

end Go.Proofs.Qxb6600068a
