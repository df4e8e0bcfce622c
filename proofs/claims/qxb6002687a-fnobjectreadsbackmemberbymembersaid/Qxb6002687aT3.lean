import Derived.Test.Qxb6002687aT2
namespace Go.Proofs.Qxb6002687a
set_option linter.unusedVariables false
set_option linter.unusedSimpArgs false
open Go.RowKit Go.Zq Go.Zp

set_option maxHeartbeats 1000000 in
theorem enc_any (base : Nat) (v : Value) (bs : List Int) (s : ByteArray) (w : World) (hown : Own base w v bs) (hs : 6 * s.size + bs.length ≤ 10000000000) (hb : base ≤ w.heap.size) :
    Calls Try.prog 11 #[v, .string s] w fun e w' => ∃ v', e = .returned v' ∧ Own base w' v' (bs ++ enc (sB s)) ∧ Below base w w' := by
  have hB0 := Below.refl base w
  go_enter Try.func11, Try.ntmps11
  go_wp2_with (at_builtin; refine wpList_append_lit _ rfl (.tmp 7) (.tmp 8) 22 rfl base Try.underlying22 Try.info5 _ bs [34] 1 _ w rfl rfl rfl rfl hown hB0 (by omega) (by omega) ?_; intro v1 w1 hown1 hbel1 hsz1)
  go_loopw [0, 5] (fun o i wr => ∃ k : Nat, k ≤ s.size ∧ i = .int .i64 k ∧ Own base wr o (bs ++ 34 :: encL ((sB s).take k)) ∧ Below base w wr) (fun _ i _ => s.size - (intOf i).toNat)
  case atStart => exact ⟨0, Nat.zero_le _, rfl, by simpa [encL] using hown1, hbel1⟩
  case round =>
    clear hown1 hbel1 hsz1 hown hB0
    obtain ⟨k, hk, rfl, hown, hbel⟩ := hrel
    have hL := enc_at_len bs s k hk
    have hsz := hbel.size
    obtain ⟨cu, hcu⟩ : ∃ cu, cu = bs ++ 34 :: encL ((sB s).take k) := ⟨_, rfl⟩
    rw [← hcu] at hown hL
    have HC := hide hcu
    clear hcu
    by_cases hlt : k < s.size
    · have hc256 : (s[k].toNat : Int) < 256 := by have := s[k].toNat_lt; omega
      rcases (show (s[k].toNat : Int) = 34 ∨ (s[k].toNat : Int) = 92 ∨ (s[k].toNat : Int) = 47 ∨ ((s[k].toNat : Int) ≠ 34 ∧ (s[k].toNat : Int) ≠ 92 ∧ (s[k].toNat : Int) ≠ 47 ∧ (s[k].toNat : Int) < 32) ∨ ((s[k].toNat : Int) ≠ 34 ∧ (s[k].toNat : Int) ≠ 92 ∧ (s[k].toNat : Int) ≠ 47 ∧ 32 ≤ (s[k].toNat : Int)) from by omega) with hc | hc | hc | ⟨h1, h2, h3, h4⟩ | ⟨h1, h2, h3, h4⟩
      · go_wp2_with (at_builtin; refine wpList_append_lit _ rfl (.tmp 34) (.tmp 36) 22 rfl base Try.underlying22 Try.info5 _ cu [92, 34] 2 _ w rfl rfl rfl rfl hown hbel (by omega) (by omega) ?_; intro v1 w1 hown1 hbel1 hsz1)
        go_roundw
        case rel => exact ⟨k + 1, by omega, by go_num, by rw [enc_step bs s k hlt _ [92, 34] hc (by simp [encB]), ← unhide HC]; exact hown1, hbel1⟩
        case measure => simp [intOf]; omega
      · go_wp2_with (at_builtin; refine wpList_append_lit _ rfl (.tmp 34) (.tmp 36) 22 rfl base Try.underlying22 Try.info5 _ cu [92, 92] 2 _ w rfl rfl rfl rfl hown hbel (by omega) (by omega) ?_; intro v1 w1 hown1 hbel1 hsz1)
        go_roundw
        case rel => exact ⟨k + 1, by omega, by go_num, by rw [enc_step bs s k hlt _ [92, 92] hc (by simp [encB]), ← unhide HC]; exact hown1, hbel1⟩
        case measure => simp [intOf]; omega
      · go_wp2_with (at_builtin; refine wpList_append_lit _ rfl (.tmp 34) (.tmp 36) 22 rfl base Try.underlying22 Try.info5 _ cu [92, 47] 2 _ w rfl rfl rfl rfl hown hbel (by omega) (by omega) ?_; intro v1 w1 hown1 hbel1 hsz1)
        go_roundw
        case rel => exact ⟨k + 1, by omega, by go_num, by rw [enc_step bs s k hlt _ [92, 47] hc (by simp [encB]), ← unhide HC]; exact hown1, hbel1⟩
        case measure => simp [intOf]; omega
      · have b1 : ((s[k].toNat : Int) == 34) = false := beq_eq_false_iff_ne.2 h1
        have b2 : ((s[k].toNat : Int) == 92) = false := beq_eq_false_iff_ne.2 h2
        have b3 : ((s[k].toNat : Int) == 47) = false := beq_eq_false_iff_ne.2 h3
        have H := hide (And.intro h1 (And.intro h2 h3))
        clear h1 h2 h3 hc256
        go_wp2_with fail
        refine (hex_any _ _ (by omega) (by omega)).mono ?_
        rintro e w' ⟨rfl, rfl⟩
        go_wp2_with fail
        refine (hex_any _ _ (by omega) (by omega)).mono ?_
        rintro e w' ⟨rfl, rfl⟩
        go_wp2_with (at_builtin; refine wpList_append_lit _ rfl (.tmp 41) (.tmp 48) 22 rfl base Try.underlying22 Try.info5 _ cu [92, 117, 48, 48, hexD ((s[k].toNat : Int) / 16), hexD ((s[k].toNat : Int) % 16)] 6 _ w rfl rfl rfl rfl hown hbel (by omega) (by omega) ?_; intro v1 w1 hown1 hbel1 hsz1)
        go_roundw
        case rel => exact ⟨k + 1, by omega, by go_num, by rw [enc_step bs s k hlt _ _ rfl (by have H := unhide H; rw [encB, if_neg (by omega), if_pos (by omega)]), ← unhide HC]; exact hown1, hbel1⟩
        case measure => simp [intOf]; omega
      · have b1 : ((s[k].toNat : Int) == 34) = false := beq_eq_false_iff_ne.2 h1
        have b2 : ((s[k].toNat : Int) == 92) = false := beq_eq_false_iff_ne.2 h2
        have b3 : ((s[k].toNat : Int) == 47) = false := beq_eq_false_iff_ne.2 h3
        have H := hide (And.intro h1 (And.intro h2 h3))
        clear h1 h2 h3 hc256
        go_wp2_with (at_builtin; refine wpList_append_lit _ rfl (.tmp 19) (.tmp 21) 22 rfl base Try.underlying22 Try.info5 _ cu [(s[k].toNat : Int)] 1 _ w rfl rfl rfl rfl hown hbel (by omega) (by omega) ?_; intro v1 w1 hown1 hbel1 hsz1)
        go_roundw
        case rel => exact ⟨k + 1, by omega, by go_num, by rw [enc_step bs s k hlt _ _ rfl (by have H := unhide H; rw [encB, if_neg (by omega), if_neg (by omega)]), ← unhide HC]; exact hown1, hbel1⟩
        case measure => simp [intOf]; omega
    · go_wp2_with (at_builtin; refine wpList_append_lit _ rfl (.tmp 50) (.tmp 51) 22 rfl base Try.underlying22 Try.info5 _ cu [34] 1 _ w rfl rfl rfl rfl hown hbel (by omega) (by omega) ?_; intro v1 w1 hown1 hbel1 hsz1)
      go_ret
      have e : k = s.size := by omega
      subst e
      rw [unhide HC, sB_all, enc_end] at hown1
      exact ⟨_, rfl, hown1, hbel1⟩

end Go.Proofs.Qxb6002687a
