import Derived.Test.Qxb6600068aA3
namespace Go.Proofs.Qxb6600068a
set_option linter.unusedVariables false
set_option linter.unusedSimpArgs false
open Go.RowKit Go.Zq Go.Zp

set_option maxHeartbeats 2000000 in
theorem law9_early (a0 a1 : Option Addr) (n0 c0 n1 c1 : Nat) (w : World) (h0 : n0 ≤ maxLen) (h1 : n1 ≤ maxLen) (hbig : 524288 < n0 ∨ 524288 < n1) :
    Calls Try.prog 9 #[.slice a0 n0 c0, .slice a1 n1 c1] w fun e w' => e = .returned (.bool true) ∧ Below w.heap.size w w' := by
  have H := hide (bytes26_any a0 a1 n0 c0 n1 c1 w h0 h1)
  have HB := hide hbig
  unfold maxLen at h0 h1
  clear hbig
  go_enter Try.func9, Try.ntmps9
  go_wp2_with fail
  refine (unhide H).mono ?_
  rintro e w1 ⟨⟨y, rfl⟩, rfl⟩
  cases y
  · go_wp2
    go_ret
    exact ⟨rfl, Below.refl _ _⟩
  · rcases (show 524288 < n0 ∨ (n0 ≤ 524288 ∧ 524288 < n1) from by have := unhide HB; omega) with h | ⟨ha, h⟩
    all_goals
      go_wp2
      go_ret
      exact ⟨rfl, Below.refl _ _⟩

/-- 'copy' of m bytes into a row that the call made, from place off on. -/
theorem run_copy_at (w : World) (dp a : Option Addr) (dLen dCap m cap g off B : Nat) (bs : List Int) (cur : List Value) (hg : w.heap[g]? = some (.cells cur.toArray 5 (0, 0)))
    (hr : Rd w B a cap bs) (hm : bs.length = m) (hle : m ≤ dLen) (hdp : 0 < m → dp = some ⟨g, off, none⟩) (hfit : off + m ≤ cur.length) :
    ∃ w', (Builtin.copy_ #[22, 22] 3 #[.slice dp dLen dCap, .slice a m cap]).run Try.prog w = .ok (.int .i64 m) w' ∧ w'.heap[g]? = some (.cells (splice cur off (cellsB bs)).toArray 5 (0, 0)) ∧ Below g w w' := by
  have hmin : Nat.min m dLen = m := Nat.min_eq_left hle
  rcases Nat.eq_zero_or_pos m with h0 | h0
  · subst h0
    obtain rfl : bs = [] := List.eq_nil_of_length_eq_zero hm
    refine ⟨w, ?_, ?_, Below.refl _ _⟩
    · rw [run_copy_none (P := Try.prog) w 22 22 3 5 dp a dLen dCap 0 cap Try.underlying22 Try.size5 hmin]
      rfl
    · simpa [splice, cellsB] using hg
  · obtain rfl := hdp h0
    have hs := hr.src
    rcases hs.2 with ⟨_, h, _⟩ | ⟨ad, rfl, hc⟩
    · omega
    · have hrun := run_copy_row (P := Try.prog) w 22 22 3 5 g off dLen dCap ad m cap cur.toArray 5 (cellsB bs) Try.underlying22 Try.size5 hg (by rw [cellsB_length, hm, hmin]) hc (by rw [cellsB_length]; simpa [hm] using hfit) (cellsB_one _)
      rw [cellsB_length, hm] at hrun
      refine ⟨_, hrun, ?_, below_setRow (Below.refl _ _) (Nat.le_refl _) _⟩
      have := setRow_heap w g cur.toArray (cur.take off ++ (cellsB bs ++ cur.drop (off + m))).toArray 5 (0, 0) hg
      simpa [splice, cellsB_length, hm] using this

theorem splice_two (cur X Y : List Value) (h : cur.length = X.length + Y.length) : splice (splice cur 0 X) X.length Y = X ++ Y := by
  unfold splice
  simp [List.take_append, List.drop_append]
  omega

theorem rd_take {w : World} {B : Nat} {a : Option Addr} {cap : Nat} {bs : List Int} (h : Rd w B a cap bs) (k : Nat) (hk : k ≤ bs.length) : Rd w B a cap (bs.take k) := by
  refine ⟨by have := h.le; simp; omega, h.max, h.nil, ?_⟩
  rcases h.cells with h0 | ⟨b, off, rfl, hlt, hc⟩
  · left; simp; omega
  · refine .inr ⟨b, off, rfl, hlt, fun i hi => ?_⟩
    simp at hi
    rw [hc i (by omega), bat_take bs k i (by omega)]

end Go.Proofs.Qxb6600068a
