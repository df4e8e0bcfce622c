import Derived.Test.Qxb6600108aC5
import Derived.Test.Qxb6600108aC6
namespace Go.Proofs.Qxb6600108a
set_option linter.unusedVariables false
set_option linter.unusedSimpArgs false
open Go.RowKit Go.Zq Go.Zp

theorem rdS_cell {w : World} {B cap : Nat} {a : Option Addr} {ss : List ByteArray} (hr : RdS w B a cap ss) {i : Nat} (hi : i < ss.length) : ∃ b o, a = some ⟨b, o, none⟩ ∧ w.cell? ⟨b, o + i, none⟩ = some (.string (sat ss i)) := by
  rcases hr.cells with h0 | ⟨b', o', he, _, hc⟩
  · omega
  · exact ⟨b', o', he, hc i hi⟩

set_option maxHeartbeats 16000000 in
set_option maxRecDepth 100000 in
theorem law7 (a : Option Addr) (n cap : Nat) (ss : List ByteArray) (w : World) (hr : RdS w w.heap.size a cap ss) (hn : ss.length = n) :
    Calls Try.prog 7 #[.slice a n cap] w fun e w' => e = .returned (.bool true) ∧ Below w.heap.size w w' := by
  have hcap : n ≤ cap := by have := hr.le; omega
  have hmx : cap ≤ 9223372036854775807 := by have := hr.max; unfold maxLen at this; omega
  have H24 := hide (bytes24_any a n cap w.heap.size ss w hr hn)
  have HRD := hide hr
  have HN := hide hn
  clear hr hn
  go_enter Try.func7, Try.ntmps7
  go_wp2_with fail
  refine (unhide H24).mono ?_
  rintro e w0 ⟨⟨y, rfl⟩, rfl⟩
  cases y
  · go_wp2
    go_ret
    exact ⟨rfl, Below.refl _ _⟩
  clear H24
  by_cases h4 : n ≤ 4096
  case neg =>
    go_wp2
    go_ret
    exact ⟨rfl, Below.refl _ _⟩
  go_wp2
  go_loopg [3, 4] n (fun g tv iv wr => w = wr ∧ ∃ i t : Nat, i ≤ n ∧ iv = .int .i64 (i : Int) ∧ tv = .int .i64 (t : Int) ∧ t ≤ 1048576 ∧ g = n - i ∧ Hid (t = 16 * n + sumS (ss.take i)))
  case atStart => exact ⟨rfl, 0, 16 * n, Nat.zero_le _, rfl, by go_num, by omega, rfl, by simp [Hid, sumS]⟩
  case round =>
    obtain ⟨rfl, i, t, hi, rfl, rfl, ht, rfl, HT⟩ := hrel
    by_cases hin : i < n
    · obtain ⟨b, o, rfl, hcell⟩ := rdS_cell (unhide HRD) (i := i) (by have := unhide HN; omega)
      have HNX := hide (sumS_next (ss := ss) (k := i) (by have := unhide HN; omega))
      obtain ⟨x, hx⟩ : ∃ x, x = sat ss i := ⟨_, rfl⟩
      have hxs : x.size ≤ 9223372036854775807 := by have := (unhide HRD).size i; rw [← hx] at this; unfold maxLen at this; omega
      rw [← hx] at hcell HNX
      clear hx
      by_cases h2 : t + x.size ≤ 1048576
      · go_wp2
        go_roundg (n - (i + 1))
        case measure => omega
        case rel => exact ⟨rfl, i + 1, t + x.size, by omega, by go_num, by go_num, h2, rfl, by have h1 := unhide HNX; have h3 := unhide HT; show _ = _; omega⟩
      · go_wp2
        go_ret
        exact ⟨rfl, Below.refl _ _⟩
    · obtain rfl : i = n := by omega
      have HSUM := hide (show sumS ss ≤ 1048576 by
        have h1 := unhide HT
        have h2 := unhide HN
        rw [← h2, List.take_length] at h1
        omega)
      clear HT ht
      by_cases h0 : i = 0
      · subst h0
        go_wp2
        go_ret
        exact ⟨rfl, Below.refl _ _⟩
      have t0 : ((i : Int) == 0) = false := beq_eq_false_iff_ne.2 (by omega)
      have hpos : 0 < i := by omega
      have HC := hide (cloneS_any a i cap ss w (unhide HRD) (unhide HN) (by omega))
      go_wp2_with fail
      refine (unhide HC).mono ?_
      rintro e w1 ⟨a1, cap1, rfl, hr1, hbel1⟩
      have hcap1 : i ≤ cap1 := by have := hr1.le; have := unhide HN; omega
      have HR1 := hide hr1
      clear hr1 HC HRD hcap
      go_wp2
      go_loopg [5, 6] i (fun g lv kv wr => ∃ k : Nat, k ≤ i ∧ kv = .int .i64 (k : Int) ∧ g = i - k ∧ Own w1.heap.size wr lv (joinF ((ss.take k).map sb)) ∧ Below w1.heap.size w1 wr)
      case atStart => exact ⟨0, Nat.zero_le _, rfl, rfl, by simpa [joinF] using Own.nil _ _, Below.refl _ _⟩
      case round =>
        obtain ⟨k, hk, rfl, rfl, hownX, hbelX⟩ := hrel
        obtain ⟨wB, hwB⟩ : ∃ wB, wB = wr := ⟨_, rfl⟩
        subst hwB
        have hszX := hbelX.size
        have hll : (joinF ((ss.take k).map sb)).length ≤ 3000000 := by
          have h1 := joinF_length (ss.take k)
          have h2 := sumS_le ss k
          have h3 := unhide HSUM
          rw [List.length_take] at h1
          omega
        by_cases hki : k < i
        · have hkl : k < ss.length := by have := unhide HN; omega
          have hsz : (sat ss k).size ≤ 1048576 := by have := sat_le hkl; have := unhide HSUM; omega
          rcases Nat.eq_zero_or_pos k with rfl | hk0
          · obtain ⟨b, o, rfl, hcell⟩ := rdS_cell ((unhide HR1).keep hbelX) hkl
            rw [Nat.add_zero] at hcell
            have HL := hide (line_first hkl)
            have HZ := hide (zz_app w1.heap.size _ _ (sat ss 0) wB hownX hszX hsz (by omega))
            clear hkl
            go_wp2_with fail
            refine (unhide HZ).mono ?_
            rintro e w2 ⟨v2, rfl, hown2, hbel2⟩
            go_wp2
            go_roundg (i - (0 + 1))
            case measure => omega
            case rel => exact ⟨0 + 1, by omega, by go_num, rfl, by rw [unhide HL]; exact hown2, hbelX.trans hbel2⟩
          · have HL := hide (line_next hkl hk0)
            have HKL := hide hkl
            clear hkl
            go_wp2_with (at_builtin; refine wpList_append_lit _ rfl (.tmp 53) (.tmp 54) 22 rfl w1.heap.size Try.underlying22 Try.info5 _ _ [44] 1 _ w1 rfl rfl rfl rfl hownX hbelX (by omega) hszX ?_; intro v3 w3 hown3 hbel3 hsz3; obtain ⟨b, o, rfl, hcell⟩ := rdS_cell ((unhide HR1).keep hbel3) (unhide HKL))
            have HZ := hide (zz_app w1.heap.size _ _ (sat ss k) w3 hown3 hsz3 hsz (by rw [List.length_append, List.length_singleton]; omega))
            refine (unhide HZ).mono ?_
            rintro e w2 ⟨v2, rfl, hown2, hbel2⟩
            go_wp2
            go_roundg (i - (k + 1))
            case measure => omega
            case rel => exact ⟨k + 1, by omega, by go_num, rfl, by rw [unhide HL]; exact hown2, hbel3.trans hbel2⟩
        · obtain rfl : k = i := by omega
          have e1 : ss.take k = ss := by rw [← unhide HN, List.take_length]
          rw [e1] at hownX hll
          clear e1
          obtain ⟨lm, hlm⟩ : ∃ m, (joinF (ss.map sb)).length = m := ⟨_, rfl⟩
          obtain ⟨la, lc, rfl, hrl⟩ := own_slice hownX hlm
          have hrec := rec_any la lm lc _ (ss.map sb) wB hrl hlm (by omega) rfl (by have := unhide HN; rw [List.length_map]; omega) (by have := unhide HN; rw [List.length_map]; omega)
          have HREC := hide hrec
          have HR2 := hide ((unhide HR1).keep hbelX)
          clear hrec hlm hll hrl hownX
          go_wp2_with fail
          refine (unhide HREC).mono ?_
          rintro e w4 ⟨gv, es, rfl, hownG, helsG, hbel4⟩
          have hel : es.length = k := by have := helsG.1; rw [List.length_map] at this; have := unhide HN; omega
          obtain ⟨gb, gc, rfl, hgc, hgm, hgb, hgcell⟩ := ownR_slice hownG hel hpos
          have HG := hide (And.intro hgb (And.intro hgcell helsG))
          have HR4 := hide ((unhide HR2).keep (hbel4.mono hszX))
          have HB4 := hide ((hbel1.trans (hbelX.mono hbel1.size)).trans (hbel4.mono (Nat.le_trans hbel1.size hszX)))
          have hs4 : w1.heap.size ≤ w4.heap.size := Nat.le_trans hszX hbel4.size
          clear hel hownG helsG hgcell hgb hbel4 HREC HR2
          have tk : ((k : Int) != (k : Int)) = false := by simp
          go_wp2
          go_loopg [9] k (fun g iv wr => ∃ j : Nat, j ≤ k ∧ iv = .int .i64 (j : Int) ∧ g = k - j ∧ Below w4.heap.size w4 wr)
          case atStart => exact ⟨0, Nat.zero_le _, rfl, rfl, Below.refl _ _⟩
          case round =>
            obtain ⟨j, hj, rfl, rfl, hbelJ⟩ := hrel
            by_cases hjk : j < k
            · have hjl : j < ss.length := by have := unhide HN; omega
              obtain ⟨b, o, rfl, hcell⟩ := rdS_cell ((unhide HR4).keep (hbelJ.mono hs4)) hjl
              obtain ⟨h1, h2, h3⟩ := unhide HG
              obtain ⟨ea, ec, h4a, h4b⟩ := els_at h3 hjl
              have hcg : wr.cell? ⟨gb, j, none⟩ = some (.slice ea (sat ss j).size ec) := (hbelJ.cell (p := ⟨gb, j, none⟩) h1).trans (h2 _ _ h4a)
              have hrE := h4b.step' hbelJ
              have hszj : (sat ss j).size ≤ 1000000000 := by have := sat_le hjl; have := unhide HSUM; omega
              have HSD := hide (fun N => same_drew ea _ ec (sat ss j) (wr.drewN N) (hrE.step' (Go.Zq.Below.drewN (Below.refl _ _) N)) rfl hszj)
              clear h1 h2 h3 h4a h4b hrE hjl
              go_wp2
              go_quiet (first | (go_at_call 22; exact Calls.quiet_of (unhide HSD _)))
              go_wp2
              go_roundg (k - (j + 1))
              case measure => omega
              case rel => exact ⟨j + 1, by omega, by go_num, rfl, Go.Zq.Below.drewN hbelJ _⟩
            · obtain rfl : j = k := by omega
              go_wp2
              go_ret
              exact ⟨rfl, (unhide HB4).trans (hbelJ.mono (unhide HB4).size)⟩

end Go.Proofs.Qxb6600108a
