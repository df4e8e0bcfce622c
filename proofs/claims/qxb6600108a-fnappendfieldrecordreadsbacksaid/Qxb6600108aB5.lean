import Derived.Test.Qxb6600108aB4
namespace Go.Proofs.Qxb6600108a
set_option linter.unusedVariables false
set_option linter.unusedSimpArgs false
open Go.RowKit Go.Zq Go.Zp

theorem not_spc {xs : List Int} (h : xs.any spc = false) (i : Nat) (hi : i < xs.length) : spc (bat xs i) = false := by
  rw [List.any_eq_false] at h
  have := h _ (bat_mem xs i hi)
  simpa using this
theorem spc_34 {c : Int} (h : spc c = false) : (c != 34) = true := by
  unfold spc at h
  simp at h
  rw [bne_iff_ne]; exact h.1.1.2

set_option maxHeartbeats 2000000 in
theorem parse_plain (a : Option Addr) (n cap B : Nat) (xs : List Int) (w : World) (hr : Rd w B a cap xs) (hn : xs.length = n) (hl : n ≤ 1000000000) (hs : xs.any spc = false) :
    Calls Try.prog 21 #[.slice a n cap] w fun e w' => e = .returned (.tuple #[.slice a n cap, .bool true]) ∧ w = w' := by
  have hcap : n ≤ cap := by have := hr.le; omega
  have HRD := hide hr
  have HN := hide hn
  have HS := hide hs
  clear hr hn hs
  have hstart : n = 0 ∨ (0 < n ∧ ∃ b o, a = some ⟨b, o, none⟩ ∧ w.cell? ⟨b, o + 0, none⟩ = some (.int .u8 (bat xs 0)) ∧ (bat xs 0 != 34) = true) := by
    rcases Nat.eq_zero_or_pos n with h | h
    · exact .inl h
    · right
      refine ⟨h, ?_⟩
      have hn := unhide HN
      rcases (unhide HRD).cells with h0 | ⟨b', o', he, _, hc⟩
      · omega
      · exact ⟨b', o', he, hc 0 (by omega), spc_34 (not_spc (unhide HS) 0 (by omega))⟩
  rcases hstart with rfl | ⟨h0, b, o, rfl, hc0, t0⟩
  · go_enter Try.func21, Try.ntmps21
    go_wp2
    go_loopg [5] 0 (fun g iv wr => w = wr ∧ iv = .int .i64 0)
    case atStart => exact ⟨rfl, rfl⟩
    case round =>
      obtain ⟨rfl, rfl⟩ := hrel
      go_wp2
      go_ret2
      exact ⟨rfl, rfl⟩
  · have tn : ((n : Int) == 0) = false := beq_eq_false_iff_ne.2 (by omega)
    rw [Nat.add_zero] at hc0
    go_enter Try.func21, Try.ntmps21
    go_wp2
    go_loopg [5] n (fun g iv wr => w = wr ∧ ∃ i : Nat, i ≤ n ∧ iv = .int .i64 (i : Int) ∧ g = n - i)
    case atStart => exact ⟨rfl, 0, Nat.zero_le _, rfl, rfl⟩
    case round =>
      obtain ⟨rfl, i, hi, rfl, rfl⟩ := hrel
      by_cases hin : i < n
      · have hcell : w.cell? ⟨b, o + i, none⟩ = some (.int .u8 (bat xs i)) := by
          have hn := unhide HN
          rcases (unhide HRD).cells with h0 | ⟨b', o', he, _, hc⟩
          · omega
          · cases he; exact hc i (by omega)
        have HP := hide (spc_any (bat xs i) w)
        rw [not_spc (unhide HS) i (by have := unhide HN; omega)] at HP
        go_wp2_with (go_at_call 23; refine (unhide HP).mono ?_; rintro e w' ⟨rfl, rfl⟩)
        go_roundg (n - (i + 1))
        case measure => omega
        case rel => exact ⟨rfl, i + 1, by omega, by go_num, rfl⟩
      · obtain rfl : i = n := by omega
        go_wp2
        go_ret2
        exact ⟨rfl, rfl⟩

theorem bat_mid (xs : List Int) (j t : Nat) : bat (34 :: (dbl xs ++ [34])) (1 + (dbl (xs.take j)).length + t) = bat (dbl (xs.drop j) ++ [34]) t := by
  have e : dbl xs = dbl (xs.take j) ++ dbl (xs.drop j) := by rw [← dbl_append, List.take_append_drop]
  have h := bat_append_right (34 :: dbl (xs.take j)) (dbl (xs.drop j) ++ [34]) t
  have e2 : 34 :: (dbl xs ++ [34]) = (34 :: dbl (xs.take j)) ++ (dbl (xs.drop j) ++ [34]) := by rw [e]; simp
  rw [e2, ← h]
  congr 1
  simp; omega
theorem dbl_ge : ∀ xs : List Int, xs.length ≤ (dbl xs).length
  | [] => Nat.le_refl _
  | c :: t => by
    have ih := dbl_ge t
    by_cases h : c = 34
    · simp [dbl, h]; omega
    · simp [dbl, h]; omega
theorem dbl_split (xs : List Int) (j : Nat) : (dbl xs).length = (dbl (xs.take j)).length + (dbl (xs.drop j)).length := by
  rw [← List.length_append, ← dbl_append, List.take_append_drop]

set_option maxHeartbeats 4000000 in
theorem parse_quoted (b o m cap : Nat) (xs : List Int) (w : World) (hr : Rd w w.heap.size (some ⟨b, o, none⟩) cap (34 :: (dbl xs ++ [34]))) (hm : (dbl xs).length + 1 = m) (hl : m ≤ 1000000000) :
    Calls Try.prog 21 #[.slice (some ⟨b, o, none⟩) (m + 1) cap] w fun e w' => ∃ v, e = .returned (.tuple #[v, .bool true]) ∧ Own w.heap.size w' v xs ∧ Below w.heap.size w w' := by
  have hcap : m + 1 ≤ cap := by have := hr.le; simp at this; omega
  have hcA : ∀ W, Below w.heap.size w W → ∀ i, i < m + 1 → W.cell? ⟨b, o + i, none⟩ = some (.int .u8 (bat (34 :: (dbl xs ++ [34])) i)) := by
    intro W hW i hi
    rcases (hr.keep hW).cells with h0 | ⟨b', o', he, _, hc⟩
    · simp at h0
    · cases he; exact hc i (by simp; omega)
  have hc0 : w.cell? ⟨b, o, none⟩ = some (.int .u8 34) := hcA w (Below.refl _ _) 0 (by omega)
  have hcm : w.cell? ⟨b, o + m, none⟩ = some (.int .u8 34) := by
    rw [hcA w (Below.refl _ _) m (by omega)]
    have h := bat_mid xs xs.length 0
    rw [List.take_length, List.drop_length, Nat.add_zero, Nat.add_comm, hm] at h
    rw [h]; rfl
  have HCA := hide hcA
  have HM := hide hm
  clear hcA hm hr
  have hm1 : 1 ≤ m := by have := unhide HM; omega
  have ei : ((m + 1 : Nat) : Int) - 1 = (m : Int) := by omega
  have tn : (((m + 1 : Nat) : Int) == 0) = false := beq_eq_false_iff_ne.2 (by omega)
  go_enter Try.func21, Try.ntmps21
  go_wp2
  go_loopg [6, 7] xs.length (fun g rv iv wr => ∃ j p : Nat, j ≤ xs.length ∧ g = xs.length - j ∧ iv = .int .i64 (p : Int) ∧ p ≤ m ∧ Hid (p = 1 + (dbl (xs.take j)).length) ∧ Own w.heap.size wr rv (xs.take j) ∧ Below w.heap.size w wr)
  case atStart => exact ⟨0, 1, Nat.zero_le _, rfl, rfl, hm1, rfl, by simpa using Own.nil _ _, Below.refl _ _⟩
  case round =>
    obtain ⟨j, p, hj, rfl, rfl, hpm, HP, hownX, hbelX⟩ := hrel
    have hszX := hbelX.size
    have htl : (xs.take j).length ≤ j := by simp; omega
    have hjl : j ≤ m := by
      have h1 := unhide HP
      have h2 := dbl_ge (xs.take j)
      rw [List.length_take] at h2
      omega
    by_cases hjx : j < xs.length
    · have hsp := dbl_split xs j
      rw [drop_next xs j hjx] at hsp
      by_cases hq : bat xs j = 34
      · have hpb : p + 2 ≤ m := by
          have h1 := unhide HP; have h2 := unhide HM
          simp [dbl, hq] at hsp; omega
        have hcp : wr.cell? ⟨b, o + p, none⟩ = some (.int .u8 34) := by
          rw [unhide HCA wr hbelX p (by omega)]
          have h := bat_mid xs j 0
          rw [Nat.add_zero, ← unhide HP, drop_next xs j hjx] at h
          rw [h, hq]; rfl
        have hcp1 : wr.cell? ⟨b, o + (p + 1), none⟩ = some (.int .u8 34) := by
          rw [unhide HCA wr hbelX (p + 1) (by omega)]
          have h := bat_mid xs j 1
          rw [← unhide HP, drop_next xs j hjx] at h
          rw [h, hq]; rfl
        have HN := hide (And.intro (dbl_next_q xs j hjx hq) (take_next xs j hjx))
        have HQ := hide hq
        clear hsp hq
        go_wp2_with (at_builtin; refine wpList_append_lit _ rfl (.tmp 63) (.tmp 64) 22 rfl w.heap.size Try.underlying22 Try.info5 _ _ [34] 1 _ w rfl rfl rfl rfl hownX hbelX (by omega) hszX ?_; intro v3 w3 hown3 hbel3 hsz3)
        go_roundg (xs.length - (j + 1))
        case measure => omega
        case rel =>
          refine ⟨j + 1, p + 2, by omega, rfl, by go_num, hpb, ?_, ?_, hbel3⟩
          · have h1 := unhide HP
            unfold Hid
            rw [(unhide HN).1, List.length_append]; simp; omega
          · rw [(unhide HN).2, unhide HQ]; exact hown3
      · have hpb : p + 1 ≤ m := by
          have h1 := unhide HP; have h2 := unhide HM
          simp [dbl, hq] at hsp; omega
        have hcp : wr.cell? ⟨b, o + p, none⟩ = some (.int .u8 (bat xs j)) := by
          rw [unhide HCA wr hbelX p (by omega)]
          have h := bat_mid xs j 0
          rw [Nat.add_zero, ← unhide HP, drop_next xs j hjx] at h
          have e : dbl (bat xs j :: xs.drop (j + 1)) = bat xs j :: dbl (xs.drop (j + 1)) := by simp [dbl, hq]
          rw [h, e]; rfl
        have t1 : (bat xs j == 34) = false := beq_eq_false_iff_ne.2 hq
        have HN := hide (And.intro (dbl_next_c xs j hjx hq) (take_next xs j hjx))
        clear hsp hq
        go_wp2_with (at_builtin; refine wpList_append_lit _ rfl (.tmp 68) (.tmp 70) 22 rfl w.heap.size Try.underlying22 Try.info5 _ _ [bat xs j] 1 _ w rfl rfl rfl rfl hownX hbelX (by omega) hszX ?_; intro v3 w3 hown3 hbel3 hsz3)
        go_roundg (xs.length - (j + 1))
        case measure => omega
        case rel =>
          refine ⟨j + 1, p + 1, by omega, rfl, by go_num, hpb, ?_, ?_, hbel3⟩
          · have h1 := unhide HP
            unfold Hid
            rw [(unhide HN).1, List.length_append]; simp; omega
          · rw [(unhide HN).2]; exact hown3
    · obtain rfl : j = xs.length := by omega
      obtain rfl : p = m := by
        have h1 := unhide HP; have h2 := unhide HM
        rw [List.take_length] at h1; omega
      rw [List.take_length] at hownX
      go_wp2
      go_ret2
      exact ⟨_, rfl, hownX, hbelX⟩

end Go.Proofs.Qxb6600108a
