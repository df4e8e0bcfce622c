import Derived.Test.Qxb6002687aS2
import Derived.Test.Qxb6002687aS3
import Derived.Test.Qxb6002687aPlain4
namespace Go.Proofs.Qxb6002687a
set_option linter.unusedVariables false
set_option linter.unusedSimpArgs false
open Go.RowKit Go.Zq Go.Zp

theorem _root_.Go.Zq.Rd.step {w w' : World} {a : Option Addr} {cap : Nat} {bs : List Int} (h : Rd w w.heap.size a cap bs) (hb : Below w.heap.size w w') : Rd w' w'.heap.size a cap bs := (h.keep hb).mono hb.size
theorem RdS.step {w w' : World} {a : Option Addr} {cap : Nat} {ss : List ByteArray} (h : RdS w w.heap.size a cap ss) (hb : Below w.heap.size w w') : RdS w' w'.heap.size a cap ss := (h.keep hb).mono hb.size

theorem clone_rd (a : Option Addr) (n cap : Nat) (bs : List Int) (w : World) (hr : Rd w w.heap.size a cap bs) (hn : bs.length = n) (hs : n ≤ 1000000000) :
    Calls Try.prog 9 #[.slice a n cap] w fun e w' => ∃ a' cap', e = .returned (.slice a' n cap') ∧ Rd w' w'.heap.size a' cap' bs ∧ Below w.heap.size w w' := by
  refine (clone_any 0 a n cap bs w w.heap.size hr (Nat.le_refl _) hn hs (Nat.zero_le _)).mono ?_
  rintro e w' ⟨v, rfl, hown, hb⟩
  obtain ⟨a', cap', rfl, hr'⟩ := hown.rd
  subst hn
  exact ⟨a', cap', rfl, hr', hb⟩

theorem wrap_rd (a : Option Addr) (n cap : Nat) (xs : List Int) (b : Int) (w : World) (hr : Rd w w.heap.size a cap xs) (hn : xs.length = n) (hl : n ≤ 1000000000) (ys : List Int)
    (hy : ys = wrapB (bits BinOp.and IntKind.u8 b 1 == 0) (bits BinOp.and IntKind.u8 b 2 != 0) xs) :
    Calls Try.prog 19 #[.slice a n cap, .int .u8 b] w fun e w' => ∃ a' cap', e = .returned (.slice a' ys.length cap') ∧ Rd w' w'.heap.size a' cap' ys ∧ Below w.heap.size w w' := by
  refine (wrap_any a n cap xs b w hr hn hl).mono ?_
  rintro e w' ⟨v, rfl, hown, hb⟩
  rw [← hy] at hown
  obtain ⟨a', cap', rfl, hr'⟩ := hown.rd
  exact ⟨a', cap', rfl, hr', hb⟩

theorem eq_bel (a1 a2 : Option Addr) (n c1 c2 B1 B2 : Nat) (bs : List Int) (w : World) (h1 : Rd w B1 a1 c1 bs) (h2 : Rd w B2 a2 c2 bs) (hn : bs.length = n) :
    Calls Try.prog 15 #[.slice a1 n c1, .slice a2 n c2] w fun e w' => e = .returned (.bool true) ∧ Below w.heap.size w w' := by
  refine (eq_any a1 a2 n c1 c2 B1 B2 bs w h1 h2 hn).mono ?_
  rintro e w' ⟨rfl, k, rfl⟩
  exact ⟨rfl, below_drewN (Below.refl _ _) k⟩

/-- ZZValue at place 0 of white space, a whole value X, and anything. -/
theorem zz_whole (w : World) (a : Option Addr) (n cap m : Nat) (s X R : List Int) (q : Nat) (hr : Rd w w.heap.size a cap ((wsL s ++ X) ++ R)) (hn : ((wsL s ++ X) ++ R).length = n)
    (hl : n ≤ 1000000000000) (hX : Whole X) (hm : X.length = m) (hq : s.length = q) :
    Calls Try.prog 14 #[.slice a n cap, .int .i64 0] w fun e w' => ∃ a' cap', e = .returned (.tuple #[.slice a' m cap', .int .i64 ((q : Int) + (m : Int))]) ∧ Rd w' w'.heap.size a' cap' X ∧ Below w.heap.size w w' := by
  have hlen : n = q + m + R.length := by rw [← hn]; simp [wsL_length]; omega
  have hd : ((wsL s ++ X) ++ R).drop q = X ++ R := by
    rw [List.append_assoc, ← hq, ← wsL_length s]; simp
  have hh := hX.head
  have hb : bat ((wsL s ++ X) ++ R) q = bat X 0 := by
    have := bat_append_right (wsL s) (X ++ R) 0
    rw [Nat.add_zero, wsL_length, hq] at this
    rw [List.append_assoc, this, bat_append_left X R 0 hh.1]
  refine (zz_nest w a n cap q m ((wsL s ++ X) ++ R) hr hn hl (fun i hi => ?_) (by rw [hb]; exact hh.2) (by rw [hd, hX.scan, hm]) (by omega)).mono ?_
  · have e : bat ((wsL s ++ X) ++ R) i = bat (wsL s) i := by
      rw [List.append_assoc]; exact bat_append_left _ _ i (by rw [wsL_length]; omega)
    rw [e]
    exact wsL_bat s i (by omega)
  · rintro e w' ⟨a', cap', rfl, hr', hB⟩
    rw [hd, ← hm, List.take_left] at hr'
    refine ⟨a', cap', ?_, hr'.step hB, hB⟩
    rw [Int.natCast_add]

set_option maxHeartbeats 4000000 in
theorem law4_early (ws : ByteArray) (a1 a2 a3 : Option Addr) (n1 c1 n2 c2 n3 c3 : Nat) (ss : List ByteArray) (w : World) (h0 : ws.size ≤ maxLen) (h1 : n1 ≤ maxLen) (h3 : n3 ≤ maxLen)
    (hr : RdS w w.heap.size a2 c2 ss) (hn : ss.length = n2) (hbig : 65536 < ws.size ∨ 64 < n1 ∨ 1024 < n2 ∨ 65536 < n3) :
    Calls Try.prog 4 #[.string ws, .slice a1 n1 c1, .slice a2 n2 c2, .slice a3 n3 c3] w fun e w' => e = .returned (.bool true) ∧ Below w.heap.size w w' := by
  have hb16 := bytes16_any ws a1 a2 a3 n1 c1 n2 c2 n3 c3 _ ss w h0 h1 h3 hr hn
  have H16 := hide hb16
  clear hb16 hr hn
  have h2 : n2 ≤ 1024 ∨ 1024 < n2 := by omega
  have HB := hide hbig
  clear hbig
  go_enter Try.func4, Try.ntmps4
  go_wp2_with fail
  refine (unhide H16).mono ?_
  rintro e w1 ⟨⟨y, rfl, _⟩, rfl⟩
  cases y
  · go_wp2
    go_ret
    exact ⟨rfl, Below.refl _ _⟩
  · rcases (show 65536 < ws.size ∨ (ws.size ≤ 65536 ∧ 64 < n1) ∨ (ws.size ≤ 65536 ∧ n1 ≤ 64 ∧ 1024 < n2) ∨ (ws.size ≤ 65536 ∧ n1 ≤ 64 ∧ n2 ≤ 1024 ∧ 65536 < n3) from by have := unhide HB; omega) with h | ⟨ha, h⟩ | ⟨ha, hb, h⟩ | ⟨ha, hb, hc, h⟩
    all_goals
      go_wp2
      go_ret
      exact ⟨rfl, Below.refl _ _⟩

end Go.Proofs.Qxb6002687a
