import Derived.Test.Qxb6002687aS1
namespace Go.Proofs.Qxb6002687a
set_option linter.unusedVariables false
set_option linter.unusedSimpArgs false
open Go.RowKit Go.Zq Go.Zp

set_option maxHeartbeats 1000000 in
theorem bytes16_nil (ws : ByteArray) (a1 a2 a3 : Option Addr) (n1 c1 c2 n3 c3 : Nat) (w : World) (h0 : ws.size ≤ maxLen) (h1 : n1 ≤ maxLen) (h3 : n3 ≤ maxLen) :
    Calls Try.prog 16 #[.string ws, .slice a1 n1 c1, .slice a2 0 c2, .slice a3 n3 c3] w fun e w' => BoolRet (fun _ => True) e ∧ w = w' := by
  unfold maxLen at h0 h1 h3
  go_enter Try.func16, Try.ntmps16
  go_wp2
  all_goals first | (go_ret; exact ⟨BoolRet.mk false trivial, rfl⟩) | skip
  refine wp_loop_rounds 1 ?_
  rw [rounds_succ]
  go_wp2
  all_goals (go_ret; first | exact ⟨BoolRet.mk false trivial, rfl⟩ | exact ⟨BoolRet.mk true trivial, rfl⟩)

set_option maxHeartbeats 1000000 in
theorem bytes16_some (ws : ByteArray) (a1 a3 : Option Addr) (n1 c1 b o n c2 n3 c3 : Nat) (ss : List ByteArray) (w : World) (h0 : ws.size ≤ maxLen) (h1 : n1 ≤ maxLen) (h3 : n3 ≤ maxLen) (h2 : n ≤ maxLen)
    (hn : ss.length = n) (hsz : ∀ i, (sat ss i).size ≤ maxLen) (hc : ∀ i, i < ss.length → w.cell? ⟨b, o + i, none⟩ = some (.string (sat ss i))) :
    Calls Try.prog 16 #[.string ws, .slice a1 n1 c1, .slice (some ⟨b, o, none⟩) n c2, .slice a3 n3 c3] w fun e w' => BoolRet (fun _ => True) e ∧ w = w' := by
  unfold maxLen at h0 h1 h2 h3
  have HC := hide hc
  have HN := hide hn
  have HS := hide hsz
  clear hc hn hsz
  go_enter Try.func16, Try.ntmps16
  go_wp2
  all_goals first | (go_ret; exact ⟨BoolRet.mk false trivial, rfl⟩) | skip
  go_loop [9, 10] (fun t i => ∃ k z : Nat, k ≤ n ∧ i = .int .i64 k ∧ t = .int .i64 z ∧ z ≤ 1048576) (fun _ i => n - (intOf i).toNat)
  case atStart => exact ⟨0, ws.size + n1 + n, Nat.zero_le _, rfl, by go_num, by omega⟩
  case round =>
    obtain ⟨k, z, hk, rfl, rfl, hz⟩ := hrel
    by_cases hlt : k < n
    · have hcell := unhide HC k (by have := unhide HN; omega)
      have hs := unhide HS k
      unfold maxLen at hs
      obtain ⟨s, hs0⟩ : ∃ s, s = sat ss k := ⟨_, rfl⟩
      rw [← hs0] at hcell hs
      clear hs0
      go_wp2
      all_goals first | (go_ret; exact ⟨BoolRet.mk false trivial, rfl⟩) | skip
      go_round
      case rel => exact ⟨k + 1, z + s.size, by omega, by go_num, by go_num, by omega⟩
      case measure => simp [intOf]; omega
    · go_wp2
      all_goals (go_ret; first | exact ⟨BoolRet.mk false trivial, rfl⟩ | exact ⟨BoolRet.mk true trivial, rfl⟩)

theorem bytes16_any (ws : ByteArray) (a1 a2 a3 : Option Addr) (n1 c1 n2 c2 n3 c3 B : Nat) (ss : List ByteArray) (w : World) (h0 : ws.size ≤ maxLen) (h1 : n1 ≤ maxLen) (h3 : n3 ≤ maxLen)
    (hr : RdS w B a2 c2 ss) (hn : ss.length = n2) :
    Calls Try.prog 16 #[.string ws, .slice a1 n1 c1, .slice a2 n2 c2, .slice a3 n3 c3] w fun e w' => BoolRet (fun _ => True) e ∧ w = w' := by
  rcases hr.cells with hl | ⟨b, o, rfl, _, hc⟩
  · have hs : ss = [] := List.eq_nil_of_length_eq_zero hl
    subst hs
    subst hn
    exact bytes16_nil ws a1 a2 a3 n1 c1 c2 n3 c3 w h0 h1 h3
  · exact bytes16_some ws a1 a3 n1 c1 b o n2 c2 n3 c3 ss w h0 h1 h3 (by have := hr.le; have := hr.max; omega) hn hr.size hc

end Go.Proofs.Qxb6002687a
