import Derived.Test.Qxb6002687aS1
namespace Go.Proofs.Qxb6002687a
set_option linter.unusedVariables false
set_option linter.unusedSimpArgs false
open Go.RowKit Go.Zq Go.Zp

/-- the key's string -/
def keyS : ByteArray := strOfNums keyL
theorem sB_keyS : sB keyS = keyL := by decide
theorem keyE_len : (enc keyL).length = 11 := by decide

theorem conv_key (w1 : World) : (convert 22 9 (.slice (some ⟨w1.heap.size, 0, none⟩) 7 7)).run Try.prog
      (w1.alloc (.cells #[.int .u8 107, .int .u8 34, .int .u8 125, .int .u8 93, .int .u8 92, .int .u8 91, .int .u8 123] 5)) =
    .ok (.string keyS) (w1.alloc (.cells #[.int .u8 107, .int .u8 34, .int .u8 125, .int .u8 93, .int .u8 92, .int .u8 91, .int .u8 123] 5)) := by
  refine run_convert_bytes_arg _ 22 5 Try.underlying22 Try.underlying5 w1.heap.size 0 7 7 keyL rfl ?_ 9 Try.underlying9
  intro i hi
  rw [Nat.zero_add, cell_of_row _ w1.heap.size i _ 5 (0, 0) (heap_alloc_new w1 _)]
  match i, hi with
  | 0, _ => rfl
  | 1, _ => rfl
  | 2, _ => rfl
  | 3, _ => rfl
  | 4, _ => rfl
  | 5, _ => rfl
  | 6, _ => rfl

theorem key_any (base : Nat) (v : Value) (bs : List Int) (o : Obj) {w1 : World} (w : World) (hown : Own base w1 v bs) (hbel : Below base w w1) (hsz : base ≤ w1.heap.size) (hs : bs.length ≤ 1000000000) :
    Calls Try.prog 11 #[v, .string keyS] (w1.alloc o) fun e w' => ∃ v', e = .returned v' ∧ Own base w' v' (bs ++ enc keyL) ∧ Below base w w' ∧ base ≤ w'.heap.size := by
  have hk : keyS.size = 7 := by decide
  refine (enc_any base v bs keyS (w1.alloc o) (hown.alloc o) (by omega) (by simp; omega)).mono ?_
  rintro e w' ⟨v', rfl, h1, h2⟩
  rw [sB_keyS] at h1
  have h3 := (hbel.alloc hsz o).trans h2
  exact ⟨v', rfl, h1, h3, by have := h2.size; simp at this; omega⟩

set_option maxHeartbeats 1000000 in
theorem wrap_tt (a : Option Addr) (n cap : Nat) (xs : List Int) (b : Int) (w : World) (hr : Rd w w.heap.size a cap xs) (hn : xs.length = n) (hl : n ≤ 1000000000)
    (tp : (bits BinOp.and IntKind.u8 b 1 == 0) = true) (tq : (bits BinOp.and IntKind.u8 b 2 != 0) = true) :
    Calls Try.prog 19 #[.slice a n cap, .int .u8 b] w fun e w' => ∃ v', e = .returned v' ∧ Own w.heap.size w' v' (wrapB true true xs) ∧ Below w.heap.size w w' := by
  have hbel0 := Below.refl w.heap.size w
  have hown0 := Own.nil w.heap.size w
  go_enter Try.func19, Try.ntmps19
  go_wp2_with (first
    | (at_builtin; refine wpList_append_lit _ rfl (.tmp 9) (.tmp 10) 22 rfl w.heap.size Try.underlying22 Try.info5 _ _ [91] 1 _ w rfl rfl rfl rfl hown0 hbel0 (by simp; try omega) (by omega) ?_; intro v1 w1 hown1 hbel1 hsz1)
    | (at_builtin; refine wpList_append_lit _ rfl (.tmp 25) (.tmp 26) 22 rfl w.heap.size Try.underlying22 Try.info5 _ _ [32] 1 _ w rfl rfl rfl rfl hown1 hbel1 (by simp; try omega) (by omega) ?_; intro v2 w2 hown2 hbel2 hsz2)
    | (at_builtin; refine wpList_append_rd _ rfl (.tmp 28) (.tmp 29) 22 rfl w.heap.size Try.underlying22 Try.info5 _ _ xs _ _ _ w.heap.size w rfl rfl (hr.keep hbel2) hn hown2 hbel2 (by simp; try omega) (by omega) ?_; intro v3 w3 hown3 hbel3 hsz3)
    | (at_builtin; refine wpList_append_lit _ rfl (.tmp 34) (.tmp 35) 22 rfl w.heap.size Try.underlying22 Try.info5 _ _ [10] 1 _ w rfl rfl rfl rfl hown3 hbel3 (by simp; try omega) (by omega) ?_; intro v4 w4 hown4 hbel4 hsz4)
    | (at_builtin; refine wpList_append_lit _ rfl (.tmp 40) (.tmp 41) 22 rfl w.heap.size Try.underlying22 Try.info5 _ _ [93] 1 _ w rfl rfl rfl rfl hown4 hbel4 (by simp; try omega) (by omega) ?_; intro v5 w5 hown5 hbel5 hsz5))
  go_ret
  refine ⟨_, rfl, ?_, hbel5⟩
  simpa [wrapB] using hown5

set_option maxHeartbeats 1000000 in
theorem wrap_tf (a : Option Addr) (n cap : Nat) (xs : List Int) (b : Int) (w : World) (hr : Rd w w.heap.size a cap xs) (hn : xs.length = n) (hl : n ≤ 1000000000)
    (tp : (bits BinOp.and IntKind.u8 b 1 == 0) = true) (tq : (bits BinOp.and IntKind.u8 b 2 != 0) = false) :
    Calls Try.prog 19 #[.slice a n cap, .int .u8 b] w fun e w' => ∃ v', e = .returned v' ∧ Own w.heap.size w' v' (wrapB true false xs) ∧ Below w.heap.size w w' := by
  have hbel0 := Below.refl w.heap.size w
  have hown0 := Own.nil w.heap.size w
  go_enter Try.func19, Try.ntmps19
  go_wp2_with (first
    | (at_builtin; refine wpList_append_lit _ rfl (.tmp 9) (.tmp 10) 22 rfl w.heap.size Try.underlying22 Try.info5 _ _ [91] 1 _ w rfl rfl rfl rfl hown0 hbel0 (by simp; try omega) (by omega) ?_; intro v1 w1 hown1 hbel1 hsz1)
    | (at_builtin; refine wpList_append_rd _ rfl (.tmp 28) (.tmp 29) 22 rfl w.heap.size Try.underlying22 Try.info5 _ _ xs _ _ _ w.heap.size w rfl rfl (hr.keep hbel1) hn hown1 hbel1 (by simp; try omega) (by omega) ?_; intro v2 w2 hown2 hbel2 hsz2)
    | (at_builtin; refine wpList_append_lit _ rfl (.tmp 40) (.tmp 41) 22 rfl w.heap.size Try.underlying22 Try.info5 _ _ [93] 1 _ w rfl rfl rfl rfl hown2 hbel2 (by simp; try omega) (by omega) ?_; intro v3 w3 hown3 hbel3 hsz3))
  go_ret
  refine ⟨_, rfl, ?_, hbel3⟩
  simpa [wrapB] using hown3

set_option maxHeartbeats 1000000 in
theorem wrap_ft (a : Option Addr) (n cap : Nat) (xs : List Int) (b : Int) (w : World) (hr : Rd w w.heap.size a cap xs) (hn : xs.length = n) (hl : n ≤ 1000000000)
    (tp : (bits BinOp.and IntKind.u8 b 1 == 0) = false) (tq : (bits BinOp.and IntKind.u8 b 2 != 0) = true) :
    Calls Try.prog 19 #[.slice a n cap, .int .u8 b] w fun e w' => ∃ v', e = .returned v' ∧ Own w.heap.size w' v' (wrapB false true xs) ∧ Below w.heap.size w w' := by
  have hbel0 := Below.refl w.heap.size w
  have hown0 := Own.nil w.heap.size w
  have hconv := conv_key
  have hlen := keyE_len
  go_enter Try.func19, Try.ntmps19
  go_wp2_with (first
    | (at_builtin; refine wpList_append_lit _ rfl (.tmp 12) (.tmp 13) 22 rfl w.heap.size Try.underlying22 Try.info5 _ _ [123] 1 _ w rfl rfl rfl rfl hown0 hbel0 (by simp; try omega) (by omega) ?_; intro v1 w1 hown1 hbel1 hsz1)
    | (go_at_call 11; refine (key_any w.heap.size _ _ _ w hown1 hbel1 hsz1 (by simp)).mono ?_; rintro e w2 ⟨v2, rfl, hown2, hbel2, hsz2⟩)
    | (at_builtin; refine wpList_append_lit _ rfl (.tmp 19) (.tmp 20) 22 rfl w.heap.size Try.underlying22 Try.info5 _ _ [58] 1 _ w rfl rfl rfl rfl hown2 hbel2 (by simp; try omega) (by omega) ?_; intro v3 w3 hown3 hbel3 hsz3)
    | (at_builtin; refine wpList_append_lit _ rfl (.tmp 25) (.tmp 26) 22 rfl w.heap.size Try.underlying22 Try.info5 _ _ [32] 1 _ w rfl rfl rfl rfl hown3 hbel3 (by simp; try omega) (by omega) ?_; intro v4 w4 hown4 hbel4 hsz4)
    | (at_builtin; refine wpList_append_rd _ rfl (.tmp 28) (.tmp 29) 22 rfl w.heap.size Try.underlying22 Try.info5 _ _ xs _ _ _ w.heap.size w rfl rfl (hr.keep hbel4) hn hown4 hbel4 (by simp; try omega) (by omega) ?_; intro v5 w5 hown5 hbel5 hsz5)
    | (at_builtin; refine wpList_append_lit _ rfl (.tmp 34) (.tmp 35) 22 rfl w.heap.size Try.underlying22 Try.info5 _ _ [10] 1 _ w rfl rfl rfl rfl hown5 hbel5 (by simp; try omega) (by omega) ?_; intro v6 w6 hown6 hbel6 hsz6)
    | (at_builtin; refine wpList_append_lit _ rfl (.tmp 43) (.tmp 44) 22 rfl w.heap.size Try.underlying22 Try.info5 _ _ [125] 1 _ w rfl rfl rfl rfl hown6 hbel6 (by simp; try omega) (by omega) ?_; intro v7 w7 hown7 hbel7 hsz7))
  go_ret
  refine ⟨_, rfl, ?_, hbel7⟩
  simpa [wrapB] using hown7

set_option maxHeartbeats 1000000 in
theorem wrap_ff (a : Option Addr) (n cap : Nat) (xs : List Int) (b : Int) (w : World) (hr : Rd w w.heap.size a cap xs) (hn : xs.length = n) (hl : n ≤ 1000000000)
    (tp : (bits BinOp.and IntKind.u8 b 1 == 0) = false) (tq : (bits BinOp.and IntKind.u8 b 2 != 0) = false) :
    Calls Try.prog 19 #[.slice a n cap, .int .u8 b] w fun e w' => ∃ v', e = .returned v' ∧ Own w.heap.size w' v' (wrapB false false xs) ∧ Below w.heap.size w w' := by
  have hbel0 := Below.refl w.heap.size w
  have hown0 := Own.nil w.heap.size w
  have hconv := conv_key
  have hlen := keyE_len
  go_enter Try.func19, Try.ntmps19
  go_wp2_with (first
    | (at_builtin; refine wpList_append_lit _ rfl (.tmp 12) (.tmp 13) 22 rfl w.heap.size Try.underlying22 Try.info5 _ _ [123] 1 _ w rfl rfl rfl rfl hown0 hbel0 (by simp; try omega) (by omega) ?_; intro v1 w1 hown1 hbel1 hsz1)
    | (go_at_call 11; refine (key_any w.heap.size _ _ _ w hown1 hbel1 hsz1 (by simp)).mono ?_; rintro e w2 ⟨v2, rfl, hown2, hbel2, hsz2⟩)
    | (at_builtin; refine wpList_append_lit _ rfl (.tmp 19) (.tmp 20) 22 rfl w.heap.size Try.underlying22 Try.info5 _ _ [58] 1 _ w rfl rfl rfl rfl hown2 hbel2 (by simp; try omega) (by omega) ?_; intro v3 w3 hown3 hbel3 hsz3)
    | (at_builtin; refine wpList_append_rd _ rfl (.tmp 28) (.tmp 29) 22 rfl w.heap.size Try.underlying22 Try.info5 _ _ xs _ _ _ w.heap.size w rfl rfl (hr.keep hbel3) hn hown3 hbel3 (by simp; try omega) (by omega) ?_; intro v4 w4 hown4 hbel4 hsz4)
    | (at_builtin; refine wpList_append_lit _ rfl (.tmp 43) (.tmp 44) 22 rfl w.heap.size Try.underlying22 Try.info5 _ _ [125] 1 _ w rfl rfl rfl rfl hown4 hbel4 (by simp; try omega) (by omega) ?_; intro v5 w5 hown5 hbel5 hsz5))
  go_ret
  refine ⟨_, rfl, ?_, hbel5⟩
  simpa [wrapB] using hown5

/-- zzWrap, whatever the byte. -/
theorem wrap_any (a : Option Addr) (n cap : Nat) (xs : List Int) (b : Int) (w : World) (hr : Rd w w.heap.size a cap xs) (hn : xs.length = n) (hl : n ≤ 1000000000) :
    Calls Try.prog 19 #[.slice a n cap, .int .u8 b] w fun e w' => ∃ v', e = .returned v' ∧ Own w.heap.size w' v' (wrapB (bits BinOp.and IntKind.u8 b 1 == 0) (bits BinOp.and IntKind.u8 b 2 != 0) xs) ∧ Below w.heap.size w w' := by
  cases tp : (bits BinOp.and IntKind.u8 b 1 == 0) <;> cases tq : (bits BinOp.and IntKind.u8 b 2 != 0)
  · exact wrap_ff a n cap xs b w hr hn hl tp tq
  · exact wrap_ft a n cap xs b w hr hn hl tp tq
  · exact wrap_tf a n cap xs b w hr hn hl tp tq
  · exact wrap_tt a n cap xs b w hr hn hl tp tq

end Go.Proofs.Qxb6002687a
