import Derived.Test.Qxb6002687aR6
namespace Go.Proofs.Qxb6002687a
set_option linter.unusedVariables false
set_option linter.unusedSimpArgs false
open Go.RowKit Go.Zq Go.Zp

def sat (ss : List ByteArray) (k : Nat) : ByteArray := ss.getD k ByteArray.empty

/-- The slice '.slice a ss.length cap' reads as the strings ss in w; its cells lie below block B. -/
structure RdS (w : World) (B : Nat) (a : Option Addr) (cap : Nat) (ss : List ByteArray) : Prop where
  le : ss.length ≤ cap
  max : cap ≤ maxLen
  nil : a = none → cap = 0
  size : ∀ i, (sat ss i).size ≤ maxLen
  cells : ss.length = 0 ∨ ∃ b off, a = some ⟨b, off, none⟩ ∧ b < B ∧ ∀ i, i < ss.length → w.cell? ⟨b, off + i, none⟩ = some (.string (sat ss i))

theorem RdS.keep {w w' : World} {B : Nat} {a : Option Addr} {cap : Nat} {ss : List ByteArray} (h : RdS w B a cap ss) (hb : Below B w w') : RdS w' B a cap ss := by
  refine ⟨h.le, h.max, h.nil, h.size, ?_⟩
  rcases h.cells with h0 | ⟨b, off, rfl, hlt, hc⟩
  · exact .inl h0
  · exact .inr ⟨b, off, rfl, hlt, fun i hi => (hb.cell (p := ⟨b, off + i, none⟩) hlt).trans (hc i hi)⟩

theorem RdS.mono {w : World} {B B' : Nat} {a : Option Addr} {cap : Nat} {ss : List ByteArray} (h : RdS w B a cap ss) (hB : B ≤ B') : RdS w B' a cap ss := by
  refine ⟨h.le, h.max, h.nil, h.size, ?_⟩
  rcases h.cells with h0 | ⟨b, off, rfl, hlt, hc⟩
  · exact .inl h0
  · exact .inr ⟨b, off, rfl, by omega, hc⟩

theorem sat_get {ss : List ByteArray} {i : Nat} (h : i < ss.length) : (ss.map Value.string)[i]? = some (.string (sat ss i)) := by
  simp [sat, List.getD, h]

theorem Try.info9 : (Try.prog.info? 9).map (fun i => (i.zero, i.size, i.bytes)) = some (some (.string ⟨#[]⟩), 1, 16) := by kernel_rfl
theorem Try.size9 : (Try.prog.info? 9).map (·.size) = some 1 := by kernel_rfl

set_option maxHeartbeats 400000 in
theorem cloneS_any (a : Option Addr) (n cap : Nat) (ss : List ByteArray) (w : World) (B : Nat) (hr : RdS w B a cap ss) (hB : B ≤ w.heap.size) (hn : ss.length = n) (hs : n ≤ 1000000000) :
    Calls Try.prog 18 #[.slice a n cap] w fun e w' => ∃ a' cap', e = .returned (.slice a' n cap') ∧ RdS w' w'.heap.size a' cap' ss ∧ Below w.heap.size w w' := by
  obtain ⟨i0, hi, hz0, hz1, hz2⟩ := info_parts Try.info9
  have q31 : ∀ (w : World) (a : Option Addr) (n c n' c' : Nat), (binOp .eql 31 (.slice a n c) (.slice none n' c')).run Try.prog w = .ok (.bool a.isNone) w := fun w a n c n' c' => Lib.run_eql_slice_nil w _ _ a n c n' c' Try.underlying31
  have Hn := hide hn
  clear hn
  rcases a with _ | x
  · go_enter Try.func18, Try.ntmps18
    go_wp2
    go_ret
    have h0 : ss.length = 0 := by have := hr.le; have := hr.nil rfl; omega
    have hn := unhide Hn
    refine ⟨none, 0, ?_, ⟨by omega, by simp [maxLen], fun _ => rfl, hr.size, .inl h0⟩, Below.refl _ _⟩
    show Ending.returned (Value.slice none 0 0) = _
    rw [← hn, h0]
  · go_enter Try.func18, Try.ntmps18
    go_wp2_with (first | (at_make; refine wpList_make_full _ rfl _ _ 31 rfl w.heap.size 9 i0 (.string ⟨#[]⟩) 1 Try.underlying31 hi hz0 hz1 _ _ _ _ n rfl rfl rfl rfl ?b2 ?b3 (Nat.le_refl _) ?_))
    case b2 => rw [hz2]; omega
    case b3 => unfold maxLen; omega
    intro w1 hown hg
    have hbel : Below w.heap.size w w1 := (Below.refl _ _).grown hg (Nat.le_refl _) (by simp)
    have hr1 := (hr.mono hB).keep hbel
    obtain ⟨w2, hrun, hown2, hg2⟩ := run_copy_full (P := Try.prog) w1 31 31 3 9 w.heap.size w.heap.size n cap (some x) (ss.map Value.string) _ Try.underlying31 Try.size9 hown (by rw [List.length_map]; exact unhide Hn)
      (by
        rcases hr1.cells with h0 | ⟨b, off, h, hlt, hc⟩
        · exact .inl (by have := unhide Hn; omega)
        · refine .inr ⟨_, h, fun j v hj => ?_⟩
          have hjl : j < ss.length := by have := (List.getElem?_eq_some_iff.1 hj).1; simpa using this
          rw [sat_get hjl] at hj
          rw [Addr.add_lit, hc j hjl]; exact hj) (by
        intro v hv
        obtain ⟨s, _, rfl⟩ := List.mem_map.1 hv
        rfl)
    have hbel2 : Below w.heap.size w w2 := hbel.grown hg2 hbel.size (by simp)
    clear hr1 hown hg hg2
    have HX := hide hown2
    clear hown2
    go_wp2
    go_ret
    have hx := unhide HX
    have hn := unhide Hn
    refine ⟨_, _, rfl, ⟨by omega, by unfold maxLen; omega, by simp, hr.size, .inr ⟨w.heap.size, 0, rfl, ?_, fun i hi => ?_⟩⟩, hbel2⟩
    · exact ((World.ownsRow.lt hx) _ rfl).2
    · have := World.ownsRow.cells hx (g := w.heap.size) rfl i _ (sat_get hi)
      rw [Addr.add_lit] at this
      exact this

/-- the sum of the lengths -/
def tot (ss : List ByteArray) : Nat := (ss.map ByteArray.size).sum
theorem tot_snoc (ss : List ByteArray) (k : Nat) (h : k < ss.length) : tot (ss.take (k + 1)) = tot (ss.take k) + (sat ss k).size := by
  rw [List.take_add_one, List.getElem?_eq_getElem h]
  simp only [tot, List.map_append, List.sum_append, Option.toList, List.map_cons, List.map_nil, List.sum_cons, List.sum_nil]
  simp [sat, List.getD, h]

/-- It returns a Boolean of which p holds. -/
def BoolRet (p : Bool → Prop) (e : Ending) : Prop := ∃ y, e = .returned (.bool y) ∧ p y
theorem BoolRet.mk {p : Bool → Prop} (y : Bool) (h : p y) : BoolRet p (.returned (.bool y)) := ⟨y, rfl, h⟩

set_option maxHeartbeats 400000 in
theorem over_nil (a : Option Addr) (cap : Nat) (w : World) (L : Int) :
    Calls Try.prog 17 #[.slice a 0 cap, .int .i64 L] w fun e w' => e = .returned (.bool false) ∧ w = w' := by
  go_enter Try.func17, Try.ntmps17
  go_wp2
  refine wp_loop_rounds 1 ?_
  rw [rounds_succ]
  go_wp2
  go_ret
  exact ⟨rfl, rfl⟩

set_option maxHeartbeats 1000000 in
theorem over_some (b o n cap : Nat) (ss : List ByteArray) (w : World) (L : Nat) (hL : L ≤ 1000000) (hm : n ≤ maxLen) (hn : ss.length = n) (hsz : ∀ i, (sat ss i).size ≤ maxLen)
    (hc : ∀ i, i < ss.length → w.cell? ⟨b, o + i, none⟩ = some (.string (sat ss i))) :
    Calls Try.prog 17 #[.slice (some ⟨b, o, none⟩) n cap, .int .i64 L] w fun e w' => BoolRet (fun y => y = false → tot ss ≤ L) e ∧ w = w' := by
  unfold maxLen at hm
  have HC := hide hc
  have HN := hide hn
  have HS := hide hsz
  clear hc hn hsz
  go_enter Try.func17, Try.ntmps17
  go_wp2
  go_loop [5, 6] (fun t i => ∃ k z : Nat, k ≤ n ∧ i = .int .i64 k ∧ t = .int .i64 z ∧ z = tot (ss.take k) ∧ z ≤ L) (fun _ i => n - (intOf i).toNat)
  case atStart => exact ⟨0, 0, Nat.zero_le _, rfl, rfl, rfl, Nat.zero_le _⟩
  case round =>
    obtain ⟨k, z, hk, rfl, rfl, hz, hzL⟩ := hrel
    have HZ := hide hz
    clear hz
    by_cases hlt : k < n
    · have hcell := unhide HC k (by have := unhide HN; omega)
      have hs := unhide HS k
      unfold maxLen at hs
      obtain ⟨s, hs0⟩ : ∃ s, s = sat ss k := ⟨_, rfl⟩
      rw [← hs0] at hcell hs
      have HE := hide hs0
      clear hs0
      by_cases hover : ((L : Int) - (z : Int)) < (s.size : Int)
      · go_wp2
        go_ret
        exact ⟨BoolRet.mk true (by simp), rfl⟩
      · go_wp2
        go_round
        case rel => exact ⟨k + 1, z + s.size, by omega, by go_num, by go_num, by rw [tot_snoc ss k (by have := unhide HN; omega), ← unhide HZ, ← unhide HE], by omega⟩
        case measure => simp [intOf]; omega
    · go_wp2
      go_ret
      refine ⟨BoolRet.mk false fun _ => ?_, rfl⟩
      have hz := unhide HZ
      rw [List.take_of_length_le (by have := unhide HN; omega)] at hz
      omega

theorem over_any (a : Option Addr) (n cap B : Nat) (ss : List ByteArray) (w : World) (L : Nat) (hL : L ≤ 1000000) (hr : RdS w B a cap ss) (hn : ss.length = n) :
    Calls Try.prog 17 #[.slice a n cap, .int .i64 L] w fun e w' => BoolRet (fun y => y = false → tot ss ≤ L) e ∧ w = w' := by
  rcases hr.cells with h0 | ⟨b, o, rfl, _, hc⟩
  · have hs : ss = [] := List.eq_nil_of_length_eq_zero h0
    subst hs
    subst hn
    refine (over_nil a cap w L).mono ?_
    rintro e w' ⟨rfl, rfl⟩
    exact ⟨BoolRet.mk false fun _ => Nat.zero_le _, rfl⟩
  · exact over_some b o n cap ss w L hL (by have := hr.le; have := hr.max; omega) hn hr.size hc

end Go.Proofs.Qxb6002687a
