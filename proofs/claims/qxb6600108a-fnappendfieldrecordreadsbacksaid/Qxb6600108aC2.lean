import Derived.Test.Qxb6600108aC1
import Derived.Laws.OwnMore
namespace Go.Proofs.Qxb6600108a
set_option linter.unusedVariables false
set_option linter.unusedSimpArgs false
open Go.RowKit Go.Zq Go.Zp

set_option maxHeartbeats 2000000 in
theorem cloneS_any (a : Option Addr) (n cap : Nat) (ss : List ByteArray) (w : World) (hr : RdS w w.heap.size a cap ss) (hn : ss.length = n) (hs : n ≤ 1000000000) :
    Calls Try.prog 25 #[.slice a n cap] w fun e w' => ∃ a' cap', e = .returned (.slice a' n cap') ∧ RdS w' w'.heap.size a' cap' ss ∧ Below w.heap.size w w' := by
  obtain ⟨i0, hi, hz0, hz1, hz2⟩ := info_parts Try.info9
  have q34 : ∀ (w : World) (a : Option Addr) (n c n' c' : Nat), (binOp .eql 34 (.slice a n c) (.slice none n' c')).run Try.prog w = .ok (.bool a.isNone) w := fun w a n c n' c' => Lib.run_eql_slice_nil w _ _ a n c n' c' Try.underlying34
  have Hn := hide hn
  clear hn
  rcases a with _ | x
  · go_enter Try.func25, Try.ntmps25
    go_wp2
    go_ret
    have h0 : ss.length = 0 := by have := hr.le; have := hr.nil rfl; omega
    have hn := unhide Hn
    refine ⟨none, 0, ?_, ⟨by omega, by simp [maxLen], fun _ => rfl, hr.size, .inl h0⟩, Below.refl _ _⟩
    show Ending.returned (Value.slice none 0 0) = _
    rw [← hn, h0]
  · have hcap : n ≤ cap := by have := hr.le; have := unhide Hn; omega
    have HRD := hide hr
    clear hr
    go_enter Try.func25, Try.ntmps25
    go_wp2_with (first | (at_make; refine wpList_make_full _ rfl _ _ 34 rfl w.heap.size 9 i0 (.string ⟨#[]⟩) 1 Try.underlying34 hi hz0 hz1 _ _ _ _ n rfl rfl rfl rfl ?b2 ?b3 (Nat.le_refl _) ?_))
    case b2 => rw [hz2]; omega
    case b3 => unfold maxLen; omega
    intro w1 hown hg
    have hbel : Below w.heap.size w w1 := (Below.refl _ _).grown hg (Nat.le_refl _) (by simp)
    have HW := hide hown
    clear hown hg
    go_wp2
    go_loopg [4] n (fun g iv wr => ∃ (i : Nat) (xs : List Value), i ≤ n ∧ iv = .int .i64 (i : Int) ∧ g = n - i ∧ Hid (wr.ownsRow w.heap.size 9 1 (.slice (some ⟨w.heap.size, 0, none⟩) n n) n xs ∧ ∀ k, k < i → xs[k]? = some (.string (sat ss k))) ∧ Below w.heap.size w wr)
    case atStart => exact ⟨0, _, Nat.zero_le _, rfl, rfl, ⟨unhide HW, fun k hk => by omega⟩, hbel⟩
    case round =>
      obtain ⟨i, xs, hi2, rfl, rfl, HX, hbelX⟩ := hrel
      by_cases hin : i < n
      · obtain ⟨b, o, rfl, hcell⟩ : ∃ b o, x = ⟨b, o, none⟩ ∧ wr.cell? ⟨b, o + i, none⟩ = some (.string (sat ss i)) := by
          have hn := unhide Hn
          rcases ((unhide HRD).keep hbelX).cells with h0 | ⟨b', o', he, _, hc⟩
          · omega
          · exact ⟨b', o', by simpa using he, hc i (by omega)⟩
        have hxl : xs.length = n := by have := (unhide HX).1.1; simpa using this
        obtain ⟨old, hold⟩ : ∃ old, xs[i]? = some old := ⟨_, List.getElem?_eq_getElem (by omega)⟩
        have hct : wr.cell? ⟨w.heap.size, i, none⟩ = some old := by
          have := World.ownsRow.cells (unhide HX).1 (g := w.heap.size) rfl i _ hold
          rw [Addr.add_lit, Nat.zero_add] at this
          exact this
        have hfz := World.ownsRow.frozenAt (unhide HX).1 i
        have hst := World.ownsRow.stored (unhide HX).1 i (.string (sat ss i))
        have HST := hide hst
        have HOLD := hide (And.intro hold hxl)
        clear hst hold hxl
        go_wp2
        go_roundg (n - (i + 1))
        case measure => omega
        case rel =>
          obtain ⟨h1, h2⟩ := unhide HST
          obtain ⟨h3, h4⟩ := unhide HOLD
          refine ⟨i + 1, _, by omega, by go_num, rfl, ⟨h1, fun k hk => ?_⟩, hbelX.grown h2 hbelX.size (by simp)⟩
          rw [List.getElem?_set]
          by_cases e : i = k
          · subst e
            rw [if_pos rfl, if_pos (by omega)]
          · rw [if_neg e]
            exact (unhide HX).2 k (by omega)
      · obtain rfl : i = n := by omega
        go_wp2
        go_ret
        have hx := unhide HX
        have hn := unhide Hn
        refine ⟨_, _, rfl, ⟨by omega, by unfold maxLen; omega, by simp, (unhide HRD).size, .inr ⟨w.heap.size, 0, rfl, ?_, fun k hk => ?_⟩⟩, hbelX⟩
        · exact ((World.ownsRow.lt hx.1) _ rfl).2
        · have := World.ownsRow.cells hx.1 (g := w.heap.size) rfl k _ (hx.2 k (by omega))
          rw [Addr.add_lit] at this
          exact this

end Go.Proofs.Qxb6600108a
