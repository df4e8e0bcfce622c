import Derived.Test.Qxb6002687aChecked
import Derived.Test.Qxb6002687aBase
namespace Go.Proofs.Qxb6002687a
set_option linter.unusedVariables false
set_option linter.unusedSimpArgs false
open Go.RowKit Go.Zq Go.Zp

theorem Try.info5 : (Try.prog.info? 5).map (fun i => (i.zero, i.size, i.bytes)) = some (some (.int .u8 0), 1, 1) := by kernel_rfl

set_option maxHeartbeats 400000 in
theorem eq_nil (a b : Option Addr) (ca cb : Nat) (w : World) :
    Calls Try.prog 15 #[.slice a 0 ca, .slice b 0 cb] w fun e w' => e = .returned (.bool true) ∧ w' = w := by
  go_enter Try.func15, Try.ntmps15
  go_wp2
  refine wp_loop_rounds 1 ?_
  rw [rounds_succ]
  go_wp2
  go_ret
  exact ⟨rfl, rfl⟩

set_option maxHeartbeats 400000 in
theorem eq_some (b1 o1 b2 o2 ca cb : Nat) (bs : List Int) (w : World) (hm : bs.length ≤ maxLen)
    (h1 : ∀ i, i < bs.length → w.cell? ⟨b1, o1 + i, none⟩ = some (.int .u8 (bat bs i)))
    (h2 : ∀ i, i < bs.length → w.cell? ⟨b2, o2 + i, none⟩ = some (.int .u8 (bat bs i))) :
    Calls Try.prog 15 #[.slice (some ⟨b1, o1, none⟩) bs.length ca, .slice (some ⟨b2, o2, none⟩) bs.length cb] w fun e w' => e = .returned (.bool true) ∧ ∃ n, w' = w.drewN n := by
  unfold maxLen at hm
  have H1 := hide h1
  have H2 := hide h2
  clear h1 h2
  generalize hl : bs.length = n at *
  have Hl := hide hl
  clear hl
  go_enter Try.func15, Try.ntmps15
  go_wp2
  go_loopw [5] (fun i wr => ∃ k q : Nat, k ≤ n ∧ i = .int .i64 k ∧ wr = w.drewN q) (fun i _ => n - (intOf i).toNat)
  case atStart => exact ⟨0, 0, Nat.zero_le _, rfl, rfl⟩
  case round =>
    obtain ⟨k, q, hk, rfl, rfl⟩ := hrel
    by_cases hlt : k < n
    · have c1 := unhide H1 k hlt
      have c2 := unhide H2 k hlt
      go_wp2
      go_quiet (fail)
      go_wp2
      go_roundw
      case rel => exact ⟨k + 1, _, by omega, by go_num, rfl⟩
      case measure => simp [intOf]; omega
    · go_wp2
      go_ret
      exact ⟨rfl, q, rfl⟩

end Go.Proofs.Qxb6002687a
