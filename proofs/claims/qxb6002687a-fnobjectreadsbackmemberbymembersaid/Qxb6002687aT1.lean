import Derived.Test.Qxb6002687aLeaf
namespace Go.Proofs.Qxb6002687a
set_option linter.unusedVariables false
set_option linter.unusedSimpArgs false
open Go.RowKit Go.Zq Go.Zp

theorem Try.size5 : (Try.prog.info? 5).map (·.size) = some 1 := by kernel_rfl

set_option maxHeartbeats 400000 in
theorem clone_any (base : Nat) (a : Option Addr) (n cap : Nat) (bs : List Int) (w : World) (B : Nat) (hr : Rd w B a cap bs) (hB : B ≤ w.heap.size) (hn : bs.length = n) (hs : n ≤ 1000000000) (hb : base ≤ w.heap.size) :
    Calls Try.prog 9 #[.slice a n cap] w fun e w' => ∃ v, e = .returned v ∧ Own base w' v bs ∧ Below w.heap.size w w' := by
  obtain ⟨i0, hi, hz0, hz1, hz2⟩ := info_parts Try.info5
  have q22 : ∀ (w : World) (a : Option Addr) (n c n' c' : Nat), (binOp .eql 22 (.slice a n c) (.slice none n' c')).run Try.prog w = .ok (.bool a.isNone) w := fun w a n c n' c' => Lib.run_eql_slice_nil w _ _ a n c n' c' Try.underlying22
  have Hn := hide hn
  clear hn
  rcases a with _ | x
  · go_enter Try.func9, Try.ntmps9
    go_wp2
    go_ret
    have h0 : bs = [] := List.eq_nil_of_length_eq_zero (by have := hr.le; have := hr.nil rfl; omega)
    subst h0
    exact ⟨_, rfl, Own.nil _ _, Below.refl _ _⟩
  · go_enter Try.func9, Try.ntmps9
    go_wp2_with (first | (at_make; refine wpList_make_full _ rfl _ _ 22 rfl w.heap.size 5 i0 (.int .u8 0) 1 Try.underlying22 hi hz0 hz1 _ _ _ _ n rfl rfl rfl rfl ?b2 ?b3 (Nat.le_refl _) ?_))
    case b2 => rw [hz2]; omega
    case b3 => unfold maxLen; omega
    intro w1 hown hg
    have hbel : Below w.heap.size w w1 := (Below.refl _ _).grown hg (Nat.le_refl _) (by simp)
    have hr1 := (hr.mono hB).keep hbel
    obtain ⟨w2, hrun, hown2, hg2⟩ := run_copy_full (P := Try.prog) w1 22 22 3 5 w.heap.size w.heap.size n cap (some x) (cellsB bs) _ Try.underlying22 Try.size5 hown (by rw [cellsB_length]; exact unhide Hn)
      (by
        have hs := hr1.src
        rcases hs.2 with ⟨h, _⟩ | ⟨ad, h, hc⟩
        · cases h
        · exact .inr ⟨ad, h, hc⟩) (cellsB_one _)
    have hbel2 : Below w.heap.size w w2 := hbel.grown hg2 hbel.size (by simp)
    clear hr1 hown hg hg2
    have HX := hide hown2
    clear hown2
    go_wp2
    go_ret
    exact ⟨_, rfl, (Own.of (unhide HX) (unhide Hn)).mono hb, hbel2⟩

set_option maxHeartbeats 400000 in
/-- The hexadecimal digit. -/
theorem hex_any (b : Int) (w : World) (h0 : 0 ≤ b) (h1 : b < 16) :
    Calls Try.prog 27 #[.int .u8 b] w fun e w' => e = .returned (.int .u8 (hexD b)) ∧ w = w' := by
  by_cases h : b < 10
  · go_enter Try.func27, Try.ntmps27
    go_wp2
    go_ret
    refine ⟨?_, rfl⟩
    show Ending.returned (Value.int .u8 (48 + b)) = _
    rw [hexD, if_pos h]
  · go_enter Try.func27, Try.ntmps27
    go_wp2
    go_ret
    refine ⟨?_, rfl⟩
    show Ending.returned (Value.int .u8 (97 + b - 10)) = _
    rw [hexD, if_neg (by omega), show (97 + b - 10 : Int) = 87 + b by omega]

end Go.Proofs.Qxb6002687a
