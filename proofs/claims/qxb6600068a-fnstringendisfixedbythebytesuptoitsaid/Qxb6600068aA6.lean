import Derived.Test.Qxb6600068aA4
namespace Go.Proofs.Qxb6600068a
set_option linter.unusedVariables false
set_option linter.unusedSimpArgs false
open Go.RowKit Go.Zq Go.Zp

set_option maxHeartbeats 4000000 in
theorem law9_main (a0 a1 : Option Addr) (n0 c0 n1 c1 : Nat) (ds ts : List Int) (w : World) (h0 : n0 ≤ 524288) (h1 : n1 ≤ 524288)
    (hr0 : Rd w w.heap.size a0 c0 ds) (hn0 : ds.length = n0) (hr1 : Rd w w.heap.size a1 c1 ts) (hn1 : ts.length = n1)
    (g0 : ∀ c ∈ ds, 0 ≤ c ∧ c < 256) (g1 : ∀ c ∈ ts, 0 ≤ c ∧ c < 256) :
    Calls Try.prog 9 #[.slice a0 n0 c0, .slice a1 n1 c1] w fun e w' => e = .returned (.bool true) ∧ Below w.heap.size w w' := by
  have H := hide (bytes26_any a0 a1 n0 c0 n1 c1 w (by unfold maxLen; omega) (by unfold maxLen; omega))
  have HC := hide (clone_rd a0 n0 c0 ds w hr0 hn0 (by omega))
  have HN := hide (And.intro hn0 hn1)
  have HG := hide (And.intro g0 g1)
  have HR1 := hide hr1
  obtain ⟨r0, hE0⟩ := ends_ex ds
  obtain ⟨rJ, hEJ⟩ := ends_ex (ds ++ ts)
  have HE0 := hide hE0
  have HEJ := hide hEJ
  clear hn0 hn1 g0 g1 hr0 hr1 hE0 hEJ
  obtain ⟨i0, hi, hz0, hz1, hz2⟩ := info_parts Try.info5
  go_enter Try.func9, Try.ntmps9
  go_wp2_with fail
  refine (unhide H).mono ?_
  rintro e w0 ⟨⟨y, rfl⟩, rfl⟩
  cases y
  · go_wp2
    go_ret
    exact ⟨rfl, Below.refl _ _⟩
  clear H
  go_wp2_with fail
  refine (unhide HC).mono ?_
  rintro e w1 ⟨aD, cD, rfl, hrD, haD, hbel1⟩
  have HC1 := hide (clone_rd a1 n1 c1 ts w1 ((unhide HR1).step hbel1) (unhide HN).2 (by omega))
  clear HC HR1
  go_wp2_with fail
  refine (unhide HC1).mono ?_
  rintro e w2 ⟨aT, cT, rfl, hrT, haT, hbel2⟩
  have hrD2 := hrD.step hbel2
  have hbelA : Below w.heap.size w w2 := hbel1.trans (hbel2.mono hbel1.size)
  have HZ := hide (zz_any w2 _ aD n0 cD r0 ds hrD2 haD (unhide HN).1 (by omega) (unhide HG).1 (unhide HE0))
  clear HC1 hrD hbel1 hbel2
  go_wp2_with fail
  refine (unhide HZ).mono ?_
  rintro e w3 ⟨rfl, rfl⟩
  clear HZ
  go_wp2_with (at_make; refine wpList_make_full _ rfl _ _ 22 rfl w2.heap.size 5 i0 (.int .u8 0) 1 Try.underlying22 hi hz0 hz1 _ _ _ _ (n0 + n1) rfl rfl rfl rfl (by rw [hz2]; omega) (by unfold maxLen; omega) (Nat.le_refl _) ?_)
  intro w3 hown3 hg3
  have hbel3 : Below w2.heap.size w2 w3 := (Below.refl _ _).grown hg3 (Nat.le_refl _) (by simp)
  obtain ⟨cur, hcur, hcl⟩ : ∃ cur : List Value, w3.heap[w2.heap.size]? = some (.cells cur.toArray 5 (0, 0)) ∧ cur.length = n0 + n1 := by
    rcases hown3.2 with ⟨h, _⟩ | ⟨g, cap, cur, h, _, hg, _, _, hs, _⟩
    · simp at h
    · simp only [Value.slice.injEq, Option.some.injEq, Addr.mk.injEq, and_true, true_and] at h
      obtain ⟨rfl, rfl⟩ := h
      exact ⟨cur.toList, by simpa using hg, by simpa using hs⟩
  obtain ⟨w4, hrun4, hg4, hbel4⟩ := run_copy_at w3 (some ⟨w2.heap.size, 0, none⟩) aD (n0 + n1) (n0 + n1) n0 cD w2.heap.size 0 _ ds cur hcur (hrD2.keep hbel3) (unhide HN).1 (by omega) (fun _ => rfl) (by omega)
  obtain ⟨dp, hdp1, hdp2⟩ : ∃ dp : Option Addr, dp = (if n0 + n1 = n0 then some ⟨w2.heap.size, 0, none⟩ else some ⟨w2.heap.size, n0, none⟩) ∧ (0 < n1 → dp = some ⟨w2.heap.size, n0, none⟩) := ⟨_, rfl, fun h => by rw [if_neg (by omega)]⟩
  obtain ⟨w5, hrun5, hg5, hbel5⟩ := run_copy_at w4 dp aT (n0 + n1 - n0) (n0 + n1 - n0) n1 cT w2.heap.size n0 _ ts _ hg4 ((hrT.keep hbel3).keep hbel4) (unhide HN).2 (by omega) hdp2 (by
    unfold splice
    have := (unhide HN).1
    simp [cellsB_length]; omega)
  have hbel25 : Below w2.heap.size w2 w5 := (hbel3.trans hbel4).trans hbel5
  have hownJ : Own w2.heap.size w5 (.slice (some ⟨w2.heap.size, 0, none⟩) (n0 + n1) (n0 + n1)) (ds ++ ts) := by
    refine Own.of ⟨by rw [cellsB_length]; have := unhide HN; simp; omega, .inr ⟨_, n0 + n1, _, rfl, Nat.le_refl _, hg5, Nat.le_refl _, by unfold maxLen; omega, ?_, ?_⟩⟩ (by have := unhide HN; simp; omega)
    · have h := splice_two cur (cellsB ds) (cellsB ts) (by have := unhide HN; simp [cellsB_length]; omega)
      rw [cellsB_length, (unhide HN).1] at h
      rw [h]
      have := unhide HN; simp [cellsB_length]; omega
    · have h := splice_two cur (cellsB ds) (cellsB ts) (by have := unhide HN; simp [cellsB_length]; omega)
      rw [cellsB_length, (unhide HN).1] at h
      rw [h, ← cellsB_append]
      apply List.take_of_length_le
      have := unhide HN
      simp [cellsB_length]; omega
  obtain ⟨aJ, cJ, hJ, hrJ, haJ⟩ := own_adr (n := n0 + n1) hownJ (by have := unhide HN; simp; omega)
  obtain ⟨rfl, rfl⟩ : aJ = some ⟨w2.heap.size, 0, none⟩ ∧ cJ = n0 + n1 := by
    simp only [Value.slice.injEq, true_and] at hJ; exact ⟨hJ.1.symm, hJ.2.symm⟩
  have HZJ := hide (zz_any w5 _ _ (n0 + n1) (n0 + n1) rJ (ds ++ ts) hrJ haJ (by have := unhide HN; simp; omega) (by omega) (fun c hc => by
    rcases List.mem_append.1 hc with h | h
    · exact (unhide HG).1 c h
    · exact (unhide HG).2 c h) (unhide HEJ))
  have hrD5 := hrD2.step hbel25
  have HA := hide (hbelA.trans (hbel25.mono hbelA.size))
  clear hrJ haJ hJ hownJ hg5 hg4 hcur hcl hown3 hg3 hbel3 hbel4 hbel5 hbel25 hrT haT hrD2 hbelA hdp2
  have hcase : (∃ q : Nat, r0 = (q : Int) ∧ rJ = (q : Int) ∧ q < n0 ∧ Qt ds q) ∨ (r0 = -1 ∧ ∃ q : Nat, rJ = (q : Int) ∧ n0 ≤ q ∧ q < n0 + n1) ∨ (r0 = -1 ∧ rJ = -1) := by
    have hn := unhide HN
    rcases qt_or ds with ⟨q, hq⟩ | hno
    · have hl := hq.len
      exact .inl ⟨q, (unhide HE0).of_qt q hq, (unhide HEJ).of_qt q (hq.append ts), by omega, hq⟩
    · have e0 := (unhide HE0).of_no hno
      rcases qt_or (ds ++ ts) with ⟨q, hq⟩ | hno2
      · have h1 := hq.late hno
        have h2 := hq.len
        rw [List.length_append] at h2
        exact .inr (.inl ⟨e0, q, (unhide HEJ).of_qt q hq, by omega, by omega⟩)
      · exact .inr (.inr ⟨e0, (unhide HEJ).of_no hno2⟩)
  have HCS := hide hcase
  clear hcase HE0 HEJ
  by_cases hz : n0 + n1 = n0
  · rw [if_pos hz] at hdp1
    subst hdp1
    rw [hz] at hrun4 hrun5 HZJ
    rw [Nat.sub_self] at hrun5
    go_wp2_with fail
    refine (unhide HZJ).mono ?_
    rintro e w6 ⟨rfl, rfl⟩
    clear hrun4 hrun5 HZJ
    rcases unhide HCS with ⟨q, rfl, rfl, hqn, hq⟩ | ⟨rfl, q, rfl, hq1, hq2⟩ | ⟨rfl, rfl⟩
    · obtain ⟨b, o, rfl, hcell⟩ : ∃ b o, aD = some ⟨b, o, none⟩ ∧ w5.cell? ⟨b, o + q, none⟩ = some (.int .u8 34) := by
        have hn := (unhide HN).1
        rcases hrD5.cells with h0 | ⟨b', o', he, _, hc⟩
        · omega
        · exact ⟨b', o', he, by rw [hc q (by omega), hq.quote]⟩
      have hcap : n0 ≤ cD := by have := hrD5.le; have := (unhide HN).1; omega
      have HT := hide (zz_any w5 _ (some ⟨b, o, none⟩) (q + 1) cD (q : Int) (ds.take (q + 1)) (rd_take hrD5 (q + 1) (by have := (unhide HN).1; omega)) (.inr ⟨b, o, rfl⟩) (by have := (unhide HN).1; simp; omega) (by omega) (fun c hc => (unhide HG).1 c (List.mem_of_mem_take hc)) (Ends.qt hq.take))
      clear hrD5 hq HCS HN HG
      go_wp2_with (go_at_call 24; refine (unhide HT).mono ?_; rintro e w6 ⟨rfl, rfl⟩)
      go_ret
      exact ⟨rfl, unhide HA⟩
    · exfalso; omega
    · clear hrD5 HCS HN HG
      go_wp2
      go_ret
      exact ⟨rfl, unhide HA⟩
  · rw [if_neg hz] at hdp1
    subst hdp1
    rw [Nat.add_sub_cancel_left] at hrun5
    go_wp2_with fail
    refine (unhide HZJ).mono ?_
    rintro e w6 ⟨rfl, rfl⟩
    clear hrun4 hrun5 HZJ
    rcases unhide HCS with ⟨q, rfl, rfl, hqn, hq⟩ | ⟨rfl, q, rfl, hq1, hq2⟩ | ⟨rfl, rfl⟩
    · obtain ⟨b, o, rfl, hcell⟩ : ∃ b o, aD = some ⟨b, o, none⟩ ∧ w5.cell? ⟨b, o + q, none⟩ = some (.int .u8 34) := by
        have hn := (unhide HN).1
        rcases hrD5.cells with h0 | ⟨b', o', he, _, hc⟩
        · omega
        · exact ⟨b', o', he, by rw [hc q (by omega), hq.quote]⟩
      have hcap : n0 ≤ cD := by have := hrD5.le; have := (unhide HN).1; omega
      have HT := hide (zz_any w5 _ (some ⟨b, o, none⟩) (q + 1) cD (q : Int) (ds.take (q + 1)) (rd_take hrD5 (q + 1) (by have := (unhide HN).1; omega)) (.inr ⟨b, o, rfl⟩) (by have := (unhide HN).1; simp; omega) (by omega) (fun c hc => (unhide HG).1 c (List.mem_of_mem_take hc)) (Ends.qt hq.take))
      clear hrD5 hq HCS HN HG
      go_wp2_with (go_at_call 24; refine (unhide HT).mono ?_; rintro e w6 ⟨rfl, rfl⟩)
      go_ret
      exact ⟨rfl, unhide HA⟩
    · have tq : ((q : Int) == -1) = false := beq_eq_false_iff_ne.2 (by omega)
      have td : decide ((q : Int) < (n0 : Int) + (n1 : Int)) = true := decide_eq_true (by omega)
      clear hrD5 HCS HN HG
      go_wp2
      go_ret
      exact ⟨rfl, unhide HA⟩
    · clear hrD5 HCS HN HG
      go_wp2
      go_ret
      exact ⟨rfl, unhide HA⟩

theorem law9 (a0 a1 : Option Addr) (n0 c0 n1 c1 : Nat) (ds ts : List Int) (w : World)
    (hr0 : Rd w w.heap.size a0 c0 ds) (hn0 : ds.length = n0) (hr1 : Rd w w.heap.size a1 c1 ts) (hn1 : ts.length = n1)
    (g0 : ∀ c ∈ ds, 0 ≤ c ∧ c < 256) (g1 : ∀ c ∈ ts, 0 ≤ c ∧ c < 256) :
    Calls Try.prog 9 #[.slice a0 n0 c0, .slice a1 n1 c1] w fun e w' => e = .returned (.bool true) ∧ Below w.heap.size w w' := by
  by_cases h : n0 ≤ 524288 ∧ n1 ≤ 524288
  · exact law9_main a0 a1 n0 c0 n1 c1 ds ts w h.1 h.2 hr0 hn0 hr1 hn1 g0 g1
  · exact law9_early a0 a1 n0 c0 n1 c1 w (by have := hr0.le; have := hr0.max; omega) (by have := hr1.le; have := hr1.max; omega) (by omega)

end Go.Proofs.Qxb6600068a
