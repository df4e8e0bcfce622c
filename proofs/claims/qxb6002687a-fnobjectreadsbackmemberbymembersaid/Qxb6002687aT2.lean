import Derived.Test.Qxb6002687aT1
namespace Go.Proofs.Qxb6002687a
set_option linter.unusedVariables false
set_option linter.unusedSimpArgs false
open Go.RowKit Go.Zq Go.Zp

set_option maxHeartbeats 1000000 in
theorem ws_any (base : Nat) (v : Value) (bs : List Int) (s : ByteArray) (w : World) (hown : Own base w v bs) (hs : s.size + bs.length ≤ 1000000000) (hb : base ≤ w.heap.size) :
    Calls Try.prog 13 #[v, .string s] w fun e w' => ∃ v', e = .returned v' ∧ Own base w' v' (bs ++ wsL (sB s)) ∧ Below base w w' := by
  have HO := hide hown
  clear hown
  go_enter Try.func13, Try.ntmps13
  go_wp2
  go_loopw [0, 5] (fun o i wr => ∃ k : Nat, k ≤ s.size ∧ i = .int .i64 k ∧ Own base wr o (bs ++ wsL ((sB s).take k)) ∧ Below base w wr) (fun _ i _ => s.size - (intOf i).toNat)
  case atStart => exact ⟨0, Nat.zero_le _, rfl, by simpa [wsL] using unhide HO, Below.refl _ _⟩
  case round =>
    obtain ⟨k, hk, rfl, hown, hbel⟩ := hrel
    by_cases hlt : k < s.size
    · have hsz := hbel.size
      have hL := ws_len bs s k
      obtain ⟨cu, hcu⟩ : ∃ cu, cu = bs ++ wsL ((sB s).take k) := ⟨_, rfl⟩
      rw [← hcu] at hown hL
      have HC := hide hcu
      clear hcu
      go_wp2_with (first
        | (at_builtin; refine wpList_append_lit _ rfl (.tmp 21) (.tmp 22) 22 rfl base Try.underlying22 Try.info5 _ cu [32] 1 _ w rfl rfl rfl rfl hown hbel (by omega) (by omega) ?_; intro v1 w1 hown1 hbel1 hsz1)
        | (at_builtin; refine wpList_append_lit _ rfl (.tmp 26) (.tmp 27) 22 rfl base Try.underlying22 Try.info5 _ cu [9] 1 _ w rfl rfl rfl rfl hown hbel (by omega) (by omega) ?_; intro v1 w1 hown1 hbel1 hsz1)
        | (at_builtin; refine wpList_append_lit _ rfl (.tmp 31) (.tmp 32) 22 rfl base Try.underlying22 Try.info5 _ cu [10] 1 _ w rfl rfl rfl rfl hown hbel (by omega) (by omega) ?_; intro v1 w1 hown1 hbel1 hsz1)
        | (at_builtin; refine wpList_append_lit _ rfl (.tmp 16) (.tmp 17) 22 rfl base Try.underlying22 Try.info5 _ cu [13] 1 _ w rfl rfl rfl rfl hown hbel (by omega) (by omega) ?_; intro v1 w1 hown1 hbel1 hsz1))
      · go_roundw
        case rel => exact ⟨k + 1, by omega, by go_num, by rw [ws_snoc bs s k hlt _ _ rfl (ws0 (by assumption)), ← unhide HC]; exact hown1, hbel1⟩
        case measure => simp [intOf]; omega
      · go_roundw
        case rel => exact ⟨k + 1, by omega, by go_num, by rw [ws_snoc bs s k hlt _ _ rfl (ws1 (by assumption) (by assumption)), ← unhide HC]; exact hown1, hbel1⟩
        case measure => simp [intOf]; omega
      · go_roundw
        case rel => exact ⟨k + 1, by omega, by go_num, by rw [ws_snoc bs s k hlt _ _ rfl (ws2 (by assumption) (by assumption) (by assumption)), ← unhide HC]; exact hown1, hbel1⟩
        case measure => simp [intOf]; omega
      · go_roundw
        case rel => exact ⟨k + 1, by omega, by go_num, by rw [ws_snoc bs s k hlt _ _ rfl (ws3 (by assumption) (by assumption) (by assumption)), ← unhide HC]; exact hown1, hbel1⟩
        case measure => simp [intOf]; omega
    · go_wp2
      go_ret
      have e : k = s.size := by omega
      subst e
      rw [sB_all] at hown
      exact ⟨_, rfl, hown, hbel⟩

end Go.Proofs.Qxb6002687a
