import Derived.Test.Qxb6002687aS1
namespace Go.Proofs.Qxb6002687a
set_option linter.unusedVariables false
set_option linter.unusedSimpArgs false
open Go.RowKit Go.Zq Go.Zp

set_option maxHeartbeats 2000000 in
theorem bytes20_ss (b o n c b' o' n' c' : Nat) (ss ss' : List ByteArray) (w : World) (h2 : n ≤ maxLen) (h2' : n' ≤ maxLen)
    (hn : ss.length = n) (hsz : ∀ i, (sat ss i).size ≤ maxLen) (hc : ∀ i, i < ss.length → w.cell? ⟨b, o + i, none⟩ = some (.string (sat ss i)))
    (hn' : ss'.length = n') (hsz' : ∀ i, (sat ss' i).size ≤ maxLen) (hc' : ∀ i, i < ss'.length → w.cell? ⟨b', o' + i, none⟩ = some (.string (sat ss' i))) (a a' : Option Addr)
    (ha : 0 < n → a = some ⟨b, o, none⟩) (ha' : 0 < n' → a' = some ⟨b', o', none⟩) :
    Calls Try.prog 20 #[.slice a n c, .slice a' n' c'] w fun e w' => BoolRet (fun _ => True) e ∧ w = w' := by
  unfold maxLen at h2 h2'
  have HC := hide (And.intro hn (And.intro hsz hc))
  have HC' := hide (And.intro hn' (And.intro hsz' hc'))
  have HA := hide ha
  have HA' := hide ha'
  clear hc hn hsz hc' hn' hsz' ha ha'
  go_enter Try.func20, Try.ntmps20
  go_wp2
  all_goals first | (go_ret; exact ⟨BoolRet.mk false trivial, rfl⟩) | skip
  go_loop [5, 6] (fun t i => ∃ k z : Nat, k ≤ n ∧ i = .int .i64 k ∧ t = .int .i64 z ∧ z ≤ 1048576) (fun _ i => n - (intOf i).toNat)
  case atStart => exact ⟨0, n, Nat.zero_le _, rfl, rfl, by omega⟩
  case round =>
    obtain ⟨k, z, hk, rfl, rfl, hz⟩ := hrel
    by_cases hlt : k < n
    · obtain ⟨hn, hsz, hc⟩ := unhide HC
      have hcell := hc k (by omega)
      have hs := hsz k
      obtain rfl := unhide HA (by omega)
      clear hn hsz hc
      unfold maxLen at hs
      obtain ⟨s, hs0⟩ : ∃ s, s = sat ss k := ⟨_, rfl⟩
      rw [← hs0] at hcell hs
      clear hs0
      go_wp2
      all_goals first | (go_ret; exact ⟨BoolRet.mk false trivial, rfl⟩) | skip
      go_round
      case rel => exact ⟨k + 1, z + s.size, by omega, by go_num, by go_num, by omega⟩
      case measure => simp [intOf]; omega
    · go_wp2
      all_goals first | (go_ret; exact ⟨BoolRet.mk false trivial, rfl⟩) | skip
      go_loop [5, 7] (fun t i => ∃ k z : Nat, k ≤ n' ∧ i = .int .i64 k ∧ t = .int .i64 z ∧ z ≤ 1048576) (fun _ i => n' - (intOf i).toNat)
      case atStart => exact ⟨0, z + n', Nat.zero_le _, rfl, by go_num, by omega⟩
      case round =>
        clear hz
        obtain ⟨k', z', hk', rfl, rfl, hz'⟩ := hrel
        by_cases hlt' : k' < n'
        · obtain ⟨hn, hsz, hc⟩ := unhide HC'
          have hcell := hc k' (by omega)
          have hs := hsz k'
          obtain rfl := unhide HA' (by omega)
          clear hn hsz hc
          unfold maxLen at hs
          obtain ⟨s, hs0⟩ : ∃ s, s = sat ss' k' := ⟨_, rfl⟩
          rw [← hs0] at hcell hs
          clear hs0
          go_wp2
          all_goals first | (go_ret; exact ⟨BoolRet.mk false trivial, rfl⟩) | skip
          go_round
          case rel => exact ⟨k' + 1, z' + s.size, by omega, by go_num, by go_num, by omega⟩
          case measure => simp [intOf]; omega
        · go_wp2
          all_goals (go_ret; first | exact ⟨BoolRet.mk false trivial, rfl⟩ | exact ⟨BoolRet.mk true trivial, rfl⟩)

theorem RdS.cells' {w : World} {B : Nat} {a : Option Addr} {cap : Nat} {ss : List ByteArray} (h : RdS w B a cap ss) :
    ∃ b o, (0 < ss.length → a = some ⟨b, o, none⟩) ∧ ∀ i, i < ss.length → w.cell? ⟨b, o + i, none⟩ = some (.string (sat ss i)) := by
  rcases h.cells with h0 | ⟨b, o, ha, _, hc⟩
  · exact ⟨0, 0, fun h => by omega, fun i hi => by omega⟩
  · exact ⟨b, o, fun _ => ha, hc⟩

theorem bytes20_any (a a' : Option Addr) (n c n' c' B : Nat) (ss ss' : List ByteArray) (w : World) (hr : RdS w B a c ss) (hr' : RdS w B a' c' ss') (hn : ss.length = n) (hn' : ss'.length = n') :
    Calls Try.prog 20 #[.slice a n c, .slice a' n' c'] w fun e w' => BoolRet (fun _ => True) e ∧ w = w' := by
  obtain ⟨b, o, h1, h2⟩ := hr.cells'
  obtain ⟨b', o', h1', h2'⟩ := hr'.cells'
  exact bytes20_ss b o n c b' o' n' c' ss ss' w (by have := hr.le; have := hr.max; omega) (by have := hr'.le; have := hr'.max; omega) hn hr.size h2 hn' hr'.size h2' a a' (by rw [← hn]; exact h1) (by rw [← hn']; exact h1')

end Go.Proofs.Qxb6002687a
