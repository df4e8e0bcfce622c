import Derived.Test.Qxb6600003aChecked
import Derived.Test.Qxb6600003aBase
import Derived.Deep.LoopGhost
namespace Go.Proofs.Qxb6600003a
set_option linter.unusedVariables false
set_option linter.unusedSimpArgs false
open Go.RowKit Go.Zq Go.Zp

theorem Try.info5 : (Try.prog.info? 5).map (fun i => (i.zero, i.size, i.bytes)) = some (some (.int .u8 0), 1, 1) := by kernel_rfl

def hexD (v : Int) (up : Bool) : Int := if v < 10 then 48 + v else if up then 55 + v else 87 + v
theorem hexD_hex (v : Int) (up : Bool) (h0 : 0 ≤ v) (h1 : v < 16) : hexB (hexD v up) = true := by
  unfold hexD hexB
  split
  · simp; omega
  · cases up <;> simp <;> omega

set_option maxHeartbeats 400000 in
theorem hexd_any (v : Int) (up : Bool) (w : World) (h0 : 0 ≤ v) (h1 : v < 16) :
    Calls Try.prog 34 #[.int .u8 v, .bool up] w fun e w' => e = .returned (.int .u8 (hexD v up)) ∧ w = w' := by
  by_cases h : v < 10
  · go_enter Try.func34, Try.ntmps34
    go_wp2
    go_ret
    refine ⟨?_, rfl⟩
    show Ending.returned (Value.int .u8 (48 + v)) = _
    rw [hexD, if_pos h]
  · cases up
    · go_enter Try.func34, Try.ntmps34
      go_wp2
      go_ret
      refine ⟨?_, rfl⟩
      show Ending.returned (Value.int .u8 (97 + v - 10)) = _
      rw [hexD, if_neg (by omega), if_neg (by simp), show (97 + v - 10 : Int) = 87 + v by omega]
    · go_enter Try.func34, Try.ntmps34
      go_wp2
      go_ret
      refine ⟨?_, rfl⟩
      show Ending.returned (Value.int .u8 (65 + v - 10)) = _
      rw [hexD, if_neg (by omega), if_pos rfl, show (65 + v - 10 : Int) = 55 + v by omega]

def shE (b : Int) : Int := if b = 8 then 98 else if b = 9 then 116 else if b = 10 then 110 else if b = 12 then 102 else if b = 13 then 114 else 0

set_option maxHeartbeats 400000 in
theorem she_any (b : Int) (w : World) :
    Calls Try.prog 35 #[.int .u8 b] w fun e w' => e = .returned (.int .u8 (shE b)) ∧ w = w' := by
  by_cases h1 : b = 8
  · subst h1
    go_enter Try.func35, Try.ntmps35
    go_wp2
    go_ret
    exact ⟨rfl, rfl⟩
  by_cases h2 : b = 9
  · subst h2
    go_enter Try.func35, Try.ntmps35
    go_wp2
    go_ret
    exact ⟨rfl, rfl⟩
  by_cases h3 : b = 10
  · subst h3
    go_enter Try.func35, Try.ntmps35
    go_wp2
    go_ret
    exact ⟨rfl, rfl⟩
  by_cases h4 : b = 12
  · subst h4
    go_enter Try.func35, Try.ntmps35
    go_wp2
    go_ret
    exact ⟨rfl, rfl⟩
  by_cases h5 : b = 13
  · subst h5
    go_enter Try.func35, Try.ntmps35
    go_wp2
    go_ret
    exact ⟨rfl, rfl⟩
  have e : shE b = 0 := by unfold shE; rw [if_neg h1, if_neg h2, if_neg h3, if_neg h4, if_neg h5]
  rw [e]
  have t1 : (b == 8) = false := beq_eq_false_iff_ne.2 h1
  have t2 : (b == 9) = false := beq_eq_false_iff_ne.2 h2
  have t3 : (b == 10) = false := beq_eq_false_iff_ne.2 h3
  have t4 : (b == 12) = false := beq_eq_false_iff_ne.2 h4
  have t5 : (b == 13) = false := beq_eq_false_iff_ne.2 h5
  clear h1 h2 h3 h4 h5 e
  go_enter Try.func35, Try.ntmps35
  go_wp2
  go_ret
  exact ⟨rfl, rfl⟩

set_option maxHeartbeats 400000 in
theorem form_any (a : Option Addr) (n cap B k : Nat) (fs : List Int) (w : World) (hr : Rd w B a cap fs) (hn : fs.length = n) (hk : k ≤ 1000000) (hn2 : n ≤ 1000000) :
    Calls Try.prog 33 #[.slice a n cap, .int .i64 (k : Int)] w fun e w' => ∃ f, e = .returned (.int .u8 f) ∧ w = w' := by
  by_cases h0 : n = 0
  · subst h0
    go_enter Try.func33, Try.ntmps33
    go_wp2
    go_ret
    exact ⟨0, rfl, rfl⟩
  · rcases hr.cells with hz | ⟨b, o, rfl, _, hc⟩
    · omega
    have hlt : k % n < n := Nat.mod_lt _ (by omega)
    have hcell := hc (k % n) (by omega)
    have t0 : ((n : Int) == 0) = false := beq_eq_false_iff_ne.2 (by omega)
    have hn0 : (0 : Int) < (n : Int) := by omega
    clear hc hr hn
    go_enter Try.func33, Try.ntmps33
    go_wp2
    go_ret
    exact ⟨_, rfl, rfl⟩

set_option maxHeartbeats 400000 in
theorem hex_any (c : Int) (w : World) (h : hexB c = true) :
    Calls Try.prog 38 #[.int .u8 c] w fun e w' => e = .returned (.bool true) ∧ w = w' := by
  rcases (show (48 ≤ c ∧ c ≤ 57) ∨ (97 ≤ c ∧ c ≤ 102) ∨ (65 ≤ c ∧ c ≤ 70) from by
    unfold hexB at h; simp at h; omega) with ⟨h1, h2⟩ | ⟨h1, h2⟩ | ⟨h1, h2⟩
  all_goals
    clear h
    go_enter Try.func38, Try.ntmps38
    go_wp2
    go_ret
    exact ⟨rfl, rfl⟩

end Go.Proofs.Qxb6600003a
