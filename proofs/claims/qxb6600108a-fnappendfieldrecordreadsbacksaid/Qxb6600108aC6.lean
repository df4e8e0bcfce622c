import Derived.Test.Qxb6600108aC4
namespace Go.Proofs.Qxb6600108a
set_option linter.unusedVariables false
set_option linter.unusedSimpArgs false
open Go.RowKit Go.Zq Go.Zp

/-- The sizes' sum. -/
def sumS : List ByteArray → Nat
  | [] => 0
  | s :: t => s.size + sumS t
theorem sumS_append : ∀ xs ys : List ByteArray, sumS (xs ++ ys) = sumS xs + sumS ys
  | [], ys => by simp [sumS]
  | s :: t, ys => by
    have ih := sumS_append t ys
    simp [sumS, ih]; omega
theorem take_sat {ss : List ByteArray} {k : Nat} (h : k < ss.length) : ss.take (k + 1) = ss.take k ++ [sat ss k] := by
  rw [List.take_add_one]; simp [sat, h]
theorem sumS_next {ss : List ByteArray} {k : Nat} (h : k < ss.length) : sumS (ss.take (k + 1)) = sumS (ss.take k) + (sat ss k).size := by
  rw [take_sat h, sumS_append]; simp [sumS]
theorem sumS_le (ss : List ByteArray) (k : Nat) : sumS (ss.take k) ≤ sumS ss := by
  have h := sumS_append (ss.take k) (ss.drop k)
  rw [List.take_append_drop] at h; omega
theorem sat_le {ss : List ByteArray} {k : Nat} (h : k < ss.length) : (sat ss k).size ≤ sumS ss := by
  have h1 := sumS_next h
  have h2 := sumS_le ss (k + 1)
  omega
theorem fld_length (s : ByteArray) : (fld (sb s)).length ≤ 2 * s.size + 2 := by
  have h1 := dbl_length (sb s)
  rw [sb_length] at h1
  unfold fld
  split
  · simp; omega
  · rw [sb_length]; omega
theorem joinF_length : ∀ ss : List ByteArray, (joinF (ss.map sb)).length ≤ 2 * sumS ss + 3 * ss.length
  | [] => by simp [joinF]
  | s :: t => by
    have ih := joinF_length t
    have h1 := fld_length s
    rw [List.map_cons, joinF_cons, List.length_append]
    have h2 : (restF (t.map sb)).length ≤ 1 + (joinF (t.map sb)).length := by
      rcases restF_cases (t.map sb) with ⟨_, h⟩ | ⟨_, h⟩
      · rw [h]; simp
      · rw [h]; simp; omega
    simp [sumS]; omega
/-- The line after one field more. -/
theorem line_first {ss : List ByteArray} (h : 0 < ss.length) : joinF ((ss.take (0 + 1)).map sb) = joinF ((ss.take 0).map sb) ++ fld (sb (sat ss 0)) := by
  rw [take_sat h]; simp [joinF]
theorem line_next {ss : List ByteArray} {k : Nat} (h : k < ss.length) (hk : 0 < k) : joinF ((ss.take (k + 1)).map sb) = (joinF ((ss.take k).map sb) ++ [44]) ++ fld (sb (sat ss k)) := by
  rw [take_sat h, List.map_append, List.map_cons, List.map_nil, joinF_snoc]
  · simp
  · intro e
    have h2 := congrArg List.length e
    rw [List.length_map, List.length_take, List.length_nil] at h2
    omega

theorem els_at {w : World} {es : List Value} {ss : List ByteArray} (h : Els w es (ss.map sb)) {j : Nat} (hj : j < ss.length) : ∃ a c, es[j]? = some (.slice a (sat ss j).size c) ∧ Rd w w.heap.size a c (sb (sat ss j)) := by
  obtain ⟨e, h1, h2⟩ := h.2 j (by simpa using hj)
  have e2 : (ss.map sb).getD j [] = sb (sat ss j) := by simp [sat, hj]
  rw [e2] at h2
  obtain ⟨a, c, rfl, hr⟩ := own_slice h2 (sb_length _)
  exact ⟨a, c, h1, hr⟩

theorem ownR_slice {base n : Nat} {w : World} {v : Value} {es : List Value} (h : OwnR base w v es) (hn : es.length = n) (h0 : 0 < n) : ∃ g c, v = .slice (some ⟨g, 0, none⟩) n c ∧ n ≤ c ∧ c ≤ maxLen ∧ g < w.heap.size ∧ ∀ j u, es[j]? = some u → w.cell? ⟨g, j, none⟩ = some u := by
  subst hn
  have hc := fun g => @World.ownsRow.cells _ _ _ _ _ _ _ h g
  have hlt := h.lt
  rcases h.2 with ⟨_, h1⟩ | ⟨g, cap, cur, rfl, _, _, h2, h3, _⟩
  · omega
  · refine ⟨g, cap, rfl, h2, h3, hlt g rfl, fun j u hu => ?_⟩
    have := hc g rfl j u hu
    rw [Addr.add_lit, Nat.zero_add] at this
    exact this

set_option maxHeartbeats 2000000 in
/-- The comparison only reads. -/
theorem same_drew (a : Option Addr) (n cap : Nat) (s : ByteArray) (w : World) (hr : Rd w w.heap.size a cap (sb s)) (hn : s.size = n) (hl : n ≤ 1000000000) :
    Calls Try.prog 22 #[.slice a n cap, .string s] w fun e w' => e = .returned (.bool true) ∧ ∃ m, w' = w.drewN m := by
  have hsl := sb_length s
  have hcap : n ≤ cap := by have := hr.le; omega
  have HRD := hide hr
  have HSL := hide hsl
  clear hr hsl
  have hsz : (s.size : Int) = (n : Int) := by omega
  have HN := hide hn
  clear hn
  go_enter Try.func22, Try.ntmps22
  go_wp2
  go_loopg [5] n (fun g iv wr => ∃ i m : Nat, i ≤ n ∧ iv = .int .i64 (i : Int) ∧ g = n - i ∧ Hid (wr = w.drewN m))
  case atStart => exact ⟨0, 0, Nat.zero_le _, rfl, rfl, rfl⟩
  case round =>
    obtain ⟨i, m, hi, rfl, rfl, HW⟩ := hrel
    by_cases hin : i < n
    · have hnn := unhide HN
      have his : i < s.size := by omega
      obtain ⟨x, hxe⟩ : ∃ x : UInt8, s[i]'his = x := ⟨_, rfl⟩
      have hbx : bat (sb s) i = (x.toNat : Int) := by rw [sb_at s i his, hxe]
      have hbel : Below w.heap.size w wr := by rw [unhide HW]; exact Go.Zq.Below.drewN (Below.refl _ _) _
      obtain ⟨b, o, rfl, hcell⟩ : ∃ b o, a = some ⟨b, o, none⟩ ∧ wr.cell? ⟨b, o + i, none⟩ = some (.int .u8 (x.toNat : Int)) := by
        have hr := (unhide HRD).keep hbel
        have hl2 := unhide HSL
        rcases hr.cells with h0 | ⟨b', o', he, _, hc⟩
        · omega
        · exact ⟨b', o', he, by rw [hc i (by omega), hbx]⟩
      have c1 : (i : Int) < (s.size : Int) := by omega
      have hix : ∀ W, (Instr.index 9 (.string s) (.int .i64 (i : Int))).run Try.prog W = .ok (.int .u8 x.toNat) W := fun W => by
        rw [run_index_string (P := Try.prog) W 9 s .i64 (i : Int) Try.underlying9, dif_pos ⟨by omega, c1⟩, ← hxe]
        rfl
      clear hbx hnn c1 hxe hbel
      go_wp2
      go_quiet (fail)
      go_wp2
      go_roundg (n - (i + 1))
      case measure => omega
      case rel => exact ⟨i + 1, m + nq, by omega, by go_num, rfl, by show wr.drewN nq = _; rw [unhide HW, World.drewN_drewN]⟩
    · obtain rfl : i = n := by omega
      go_wp2
      go_ret
      exact ⟨rfl, m, unhide HW⟩

end Go.Proofs.Qxb6600108a
