import Derived.Test.Qxb6600003aA1
namespace Go.Proofs.Qxb6600003a
set_option linter.unusedVariables false
set_option linter.unusedSimpArgs false
open Go.RowKit Go.Zq Go.Zp

theorem rd_cell {w : World} {B b o cap : Nat} {bs : List Int} (hr : Rd w B (some ⟨b, o, none⟩) cap bs) : ∀ i, i < bs.length → w.cell? ⟨b, o + i, none⟩ = some (.int .u8 (bat bs i)) := by
  intro i hi
  rcases hr.cells with h0 | ⟨b', o', he, _, hc⟩
  · omega
  · cases he; exact hc i hi

set_option maxHeartbeats 2000000 in
set_option maxRecDepth 100000 in
theorem strEnd_any (w : World) (B b o n cap p m : Nat) (bs : List Int) (hr : Rd w B (some ⟨b, o, none⟩) cap bs) (hn : bs.length = n) (hl : n ≤ 1000000000000) (hm : strV (bs.drop (p + 1)) 0 = some m) :
    Calls Try.prog 31 #[.slice (some ⟨b, o, none⟩) n cap, .int .i64 (p : Int)] w fun e w' => e = .returned (.tuple #[.int .i64 ((p : Int) + 1 + (m : Int)), .bool true]) ∧ w = w' := by
  have hc := rd_cell hr
  rw [hn] at hc
  have HC := hide hc
  have HN := hide hn
  have HM := hide hm
  have hp : p + 1 < n := by have := strV_lt bs (p + 1) m 0 hm; omega
  clear hc hn hm hr
  go_enter Try.func31, Try.ntmps31
  go_wp2
  go_loopg [1] m (fun g i wr => w = wr ∧ ∃ q : Nat, i = .int .i64 (q : Int) ∧ q + g = p + 1 + m ∧ strV (bs.drop q) 0 = some g)
  case atStart => exact ⟨rfl, p + 1, by go_num, rfl, unhide HM⟩
  case round =>
    clear HM
    obtain ⟨rfl, q, rfl, hq, hm⟩ := hrel
    obtain ⟨hlt, hcase⟩ := strV_at bs q gk hm
    have hqn : q < n := by have := unhide HN; omega
    have c0 := unhide HC q hqn
    have HQ := hide hq
    clear hq hm hlt
    rcases hcase with ⟨hc, h1⟩ | ⟨hc, hl1, hs, m', h1, h2⟩ | ⟨hc, hu, hl5, x2, x3, x4, x5, m', h1, h2⟩ | ⟨hc1, hc2, hc3, m', h1, h2⟩
    · have t1 : (bat bs q == 34) = true := beq_iff_eq.2 hc
      have H1 := hide h1
      clear hc h1
      go_wp2
      go_ret2
      have h1 := unhide H1
      have hq := unhide HQ
      refine ⟨?_, rfl⟩
      show Ending.returned (Value.tuple #[Value.int .i64 ((q : Int) + 1), Value.bool true]) = _
      rw [show (q : Int) + 1 = (p : Int) + 1 + (m : Int) by omega]
    · have t1 : (bat bs q == 34) = false := by rw [hc]; rfl
      have t2 : (bat bs q == 92) = true := beq_iff_eq.2 hc
      have hq1 : q + 1 < n := by have := unhide HN; omega
      have c1 := unhide HC (q + 1) hq1
      have H1 := hide (And.intro h1 h2)
      clear hc h1 h2 hl1
      obtain ⟨d, hd⟩ : ∃ d, d = bat bs (q + 1) := ⟨_, rfl⟩
      rw [← hd] at c1 hs
      clear hd
      have hs' : d = 34 ∨ d = 92 ∨ d = 47 ∨ d = 98 ∨ d = 102 ∨ d = 110 ∨ d = 114 ∨ d = 116 := by
        unfold shortB at hs; simp at hs; omega
      clear hs
      rcases hs' with rfl | rfl | rfl | rfl | rfl | rfl | rfl | rfl
      all_goals
        go_wp2
        obtain ⟨h1, h2⟩ := unhide H1
        have hq := unhide HQ
        go_roundg m'
        case measure => omega
        case rel => exact ⟨rfl, q + 2, by go_num, by omega, h2⟩
    · have t1 : (bat bs q == 34) = false := by rw [hc]; rfl
      have t2 : (bat bs q == 92) = true := beq_iff_eq.2 hc
      have hq5 : q + 5 < n := by have := unhide HN; omega
      have c1 := unhide HC (q + 1) (by omega)
      have c2 := unhide HC (q + 1 + 1) (by omega)
      have c3 := unhide HC (q + 1 + 2) (by omega)
      have c4 := unhide HC (q + 1 + 3) (by omega)
      have c5 := unhide HC (q + 1 + 4) (by omega)
      rw [hu] at c1
      have H1 := hide (And.intro h1 h2)
      have X2 := hide x2
      have X3 := hide x3
      have X4 := hide x4
      have X5 := hide x5
      clear hc h1 h2 hl5 hu x2 x3 x4 x5
      go_wp2_with (go_at_call 38; refine (hex_any _ _ (by first | exact unhide X2 | exact unhide X3 | exact unhide X4 | exact unhide X5)).mono ?_; rintro e w' ⟨rfl, rfl⟩)
      obtain ⟨h1, h2⟩ := unhide H1
      have hq := unhide HQ
      go_roundg m'
      case measure => omega
      case rel => exact ⟨rfl, q + 6, by go_num, by omega, h2⟩
    · have t1 : (bat bs q == 34) = false := beq_eq_false_iff_ne.2 hc1
      have t2 : (bat bs q == 92) = false := beq_eq_false_iff_ne.2 hc2
      have H1 := hide (And.intro h1 h2)
      clear hc1 hc2 h1 h2
      go_wp2
      obtain ⟨h1, h2⟩ := unhide H1
      have hq := unhide HQ
      go_roundg m'
      case measure => omega
      case rel => exact ⟨rfl, q + 1, by go_num, by omega, h2⟩

set_option maxHeartbeats 400000 in
theorem zzStr_any (w : World) (B b o n cap p m : Nat) (bs : List Int) (hr : Rd w B (some ⟨b, o, none⟩) cap bs) (hn : bs.length = n) (hl : n ≤ 1000000000000) (hm : strV (bs.drop (p + 1)) 0 = some m) :
    Calls Try.prog 14 #[.slice (some ⟨b, o, none⟩) n cap, .int .i64 (p : Int)] w fun e w' => e = .returned (.tuple #[.int .i64 ((p : Int) + 1 + (m : Int)), .bool true]) ∧ w = w' := by
  have H := hide (strEnd_any w B b o n cap p m bs hr hn hl hm)
  clear hr hn hm
  go_enter Try.func14, Try.ntmps14
  go_wp2_with (go_at_call 31; refine (unhide H).mono ?_; rintro e w' ⟨rfl, rfl⟩)
  go_ret2
  exact ⟨rfl, rfl⟩

end Go.Proofs.Qxb6600003a
