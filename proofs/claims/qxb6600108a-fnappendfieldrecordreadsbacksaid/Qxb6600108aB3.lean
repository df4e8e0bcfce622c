import Derived.Test.Qxb6600108aB2
import Derived.Test.Qxb6600108aCsv
import Derived.Lib.AppendStr
namespace Go.Proofs.Qxb6600108a
set_option linter.unusedVariables false
set_option linter.unusedSimpArgs false
open Go.RowKit Go.Zq Go.Zp

theorem Try.info5 : (Try.prog.info? 5).map (fun i => (i.zero, i.size, i.bytes)) = some (some (.int .u8 0), 1, 1) := by kernel_rfl

theorem wpList_append_str (w : World) {ops : Array Oper} {rest : List Oper} {o : Oper} {a : Act} {Q : Exit → Act → World → Prop} (hgd : o.guard = none) (sl x : Operand)
    (ho : o.op = .call { callee := .builtin .append, args := #[sl, x], argTypes := #[22, 9] })
    (base : Nat) (v : Value) (bs : List Int) (s : ByteArray) (w0 : World) (hs : a.eval sl = v) (hx : a.eval x = .string s)
    (hown : Own base w v bs) (hb : Below base w0 w) (hsz : bs.length + s.size ≤ 70368744177664) (hbase : base ≤ w.heap.size)
    (h : ∀ v' w', Own base w' v' (bs ++ sb s) → Below base w0 w' → base ≤ w'.heap.size → wpList Try.prog ops Q rest (a.put o.dst v') w') : wpList Try.prog ops Q (o :: rest) a w := by
  refine wpList_plain hgd fun K hK => ?_
  obtain ⟨i0, hi, hz0, hz1, hz2⟩ := info_parts Try.info5
  obtain ⟨v', w', hr, h2, h3, _⟩ := Lib.run_append_own_string (P := Try.prog) w base 22 9 o.type 5 i0 Try.underlying22 Try.underlying9 hi hz0 hz1 hz2 v _ _ hown s (by unfold maxLen; omega) (by omega) hbase
  unfold Oper.wp execOp
  simp only [ho, resolve, invoke, builtin, Sem.run_bind, Sem.run_pure, Result.andThen_ok, List.map_toArray, List.map_cons, List.map_nil, hs, hx, hr]
  refine hK _ _ (h v' w' ?_ (hown.below h3 hb hbase) (by have := h3.size; omega))
  have e : Lib.strCells s = cellsB (sb s) := by simp [Lib.strCells, cellsB, sb]
  unfold Own
  rw [cellsB_append, List.length_append, sb_length, ← e]
  exact h2

theorem contains_any (s : ByteArray) : Lib.containsAny s.data.toList CH.data.toList = (sb s).any spc := by
  have key : ∀ l : List UInt8, Lib.containsAny l CH.data.toList = (l.map (fun b => (b.toNat : Int))).any spc := by
    intro l
    induction l with
    | nil => rfl
    | cons b t ih =>
      have hb : CH.data.toList.contains b = spc (b.toNat : Int) := by
        have q : ∀ n : Nat, n < 256 → (b == UInt8.ofNat n) = ((b.toNat : Int) == (n : Int)) := by
          intro n hn
          by_cases h : b.toNat = n
          · have e1 : b = UInt8.ofNat n := by
              apply UInt8.toNat_inj.1
              simp [h]; omega
            rw [beq_iff_eq.2 e1, beq_iff_eq.2 (show (b.toNat : Int) = (n : Int) by omega)]
          · have e1 : ¬ b = UInt8.ofNat n := fun e => h (by rw [e]; simp; omega)
            rw [beq_eq_false_iff_ne.2 e1, beq_eq_false_iff_ne.2 (show ¬ (b.toNat : Int) = (n : Int) by omega)]
        show (b == UInt8.ofNat 44 || (b == UInt8.ofNat 34 || (b == UInt8.ofNat 13 || (b == UInt8.ofNat 10 || false)))) = _
        rw [q 44 (by omega), q 34 (by omega), q 13 (by omega), q 10 (by omega), Bool.or_false]
        unfold spc
        simp only [Bool.or_assoc]
        rfl
      unfold Lib.containsAny at ih ⊢
      rw [Lib.indexAny, List.map_cons, List.any_cons, ← hb]
      have hge := Lib.indexAny_ge CH.data.toList t
      cases hc : CH.data.toList.contains b
      · rw [if_neg (by simp), Bool.false_or, ← ih]
        by_cases h1 : Lib.indexAny t CH.data.toList = -1
        · rw [h1]; rfl
        · have h0 : 0 ≤ Lib.indexAny t CH.data.toList := by omega
          rw [if_neg (by simpa using h1)]
          simp; omega
      · simp
  exact key _

set_option maxHeartbeats 4000000 in
theorem app_any (base : Nat) (v : Value) (bs : List Int) (s : ByteArray) (w : World) (hown : Own base w v bs) (hbase : base ≤ w.heap.size) (hs : s.size ≤ 1048576) (hl : bs.length ≤ 1000000000) :
    Calls Try.prog 30 #[v, .string s] w fun e w' => ∃ v', e = .returned v' ∧ Own base w' v' (bs ++ fld (sb s)) ∧ Below base w w' := by
  have H := hide (contains_all s w (by omega))
  rw [contains_any s] at H
  cases hc : (sb s).any spc
  · rw [hc] at H
    have HF := hide (show fld (sb s) = sb s by unfold fld; rw [hc]; rfl)
    clear hc
    go_enter Try.func30, Try.ntmps30
    go_wp2_with (first
      | (go_at_call 32; refine (unhide H).mono ?_; rintro e w1 ⟨rfl, hb1⟩; have hown1 := hown.later hb1; have hbel1 := hb1.mono hbase; have hsz1 := Nat.le_trans hbase hb1.size)
      | (at_builtin; refine wpList_append_str _ rfl (.tmp 9) (.tmp 10) rfl base _ bs s w rfl rfl hown1 hbel1 (by omega) hsz1 ?_; intro v2 w2 hown2 hbel2 hsz2))
    go_ret
    exact ⟨_, rfl, by rw [unhide HF]; exact hown2, hbel2⟩
  · rw [hc] at H
    have HF := hide (show fld (sb s) = 34 :: (dbl (sb s) ++ [34]) by unfold fld; rw [hc]; rfl)
    have HL := hide (sb_length s)
    clear hc
    go_enter Try.func30, Try.ntmps30
    go_wp2_with (first
      | (go_at_call 32; refine (unhide H).mono ?_; rintro e w1 ⟨rfl, hb1⟩; have hown1 := hown.later hb1; have hbel1 := hb1.mono hbase; have hsz1 := Nat.le_trans hbase hb1.size)
      | (at_builtin; refine wpList_append_lit _ rfl (.tmp 12) (.tmp 13) 22 rfl base Try.underlying22 Try.info5 _ bs [34] 1 _ w rfl rfl rfl rfl hown1 hbel1 (by omega) hsz1 ?_; intro v2 w2 hown2 hbel2 hsz2))
    go_loopg [0, 17] s.size (fun g vv kv wr => ∃ k : Nat, k ≤ s.size ∧ kv = .int .i64 (k : Int) ∧ g = s.size - k ∧ Own base wr vv ((bs ++ [34]) ++ dbl ((sb s).take k)) ∧ Below base w wr)
    case atStart => exact ⟨0, Nat.zero_le _, rfl, rfl, by simpa [dbl] using hown2, hbel2⟩
    case round =>
      obtain ⟨k, hk, rfl, rfl, hownX, hbelX⟩ := hrel
      have hszX := Nat.le_trans hbase hbelX.size
      have hdl : (dbl ((sb s).take k)).length ≤ 2 * k := by
        have := dbl_length ((sb s).take k)
        rw [List.length_take] at this; omega
      by_cases hks : k < s.size
      · obtain ⟨x, hxe⟩ : ∃ x : UInt8, s[k]'hks = x := ⟨_, rfl⟩
        have hbx : bat (sb s) k = (x.toNat : Int) := by rw [sb_at s k hks, hxe]
        have hkl : k < (sb s).length := by rw [unhide HL]; exact hks
        by_cases hq : (x.toNat : Int) = 34
        · have t1 : ((x.toNat : Int) == 34) = true := beq_iff_eq.2 hq
          have HN := hide (dbl_next_q (sb s) k hkl (by rw [hbx]; exact hq))
          have HQ := hide hq
          clear hq hbx hkl
          go_wp2_with (first
            | (at_builtin; refine wpList_append_lit _ rfl (.tmp 24) (.tmp 25) 22 rfl base Try.underlying22 Try.info5 _ _ [34] 1 _ w rfl rfl rfl rfl hownX hbelX (by simp; omega) hszX ?_; intro v3 w3 hown3 hbel3 hsz3)
            | (at_builtin; refine wpList_append_lit _ rfl (.tmp 27) (.tmp 31) 22 rfl base Try.underlying22 Try.info5 _ _ [(x.toNat : Int)] 1 _ w rfl rfl rfl rfl hown3 hbel3 (by simp; omega) hsz3 ?_; intro v4 w4 hown4 hbel4 hsz4))
          go_roundg (s.size - (k + 1))
          case measure => omega
          case rel =>
            refine ⟨k + 1, by omega, by go_num, rfl, ?_, hbel4⟩
            rw [unhide HN]
            rw [unhide HQ] at hown4
            simpa using hown4
        · have t1 : ((x.toNat : Int) == 34) = false := beq_eq_false_iff_ne.2 hq
          have HN := hide (dbl_next_c (sb s) k hkl (by rw [hbx]; exact hq))
          rw [hbx] at HN
          clear hq hbx hkl
          go_wp2_with (at_builtin; refine wpList_append_lit _ rfl (.tmp 27) (.tmp 31) 22 rfl base Try.underlying22 Try.info5 _ _ [(x.toNat : Int)] 1 _ w rfl rfl rfl rfl hownX hbelX (by simp; omega) hszX ?_; intro v4 w4 hown4 hbel4 hsz4)
          go_roundg (s.size - (k + 1))
          case measure => omega
          case rel =>
            refine ⟨k + 1, by omega, by go_num, rfl, ?_, hbel4⟩
            rw [unhide HN]
            simpa using hown4
      · obtain rfl : k = s.size := by omega
        go_wp2_with (at_builtin; refine wpList_append_lit _ rfl (.tmp 34) (.tmp 35) 22 rfl base Try.underlying22 Try.info5 _ _ [34] 1 _ w rfl rfl rfl rfl hownX hbelX (by simp; omega) hszX ?_; intro v4 w4 hown4 hbel4 hsz4)
        go_ret
        refine ⟨_, rfl, ?_, hbel4⟩
        rw [unhide HF]
        rw [← unhide HL, List.take_length] at hown4
        simpa using hown4

set_option maxHeartbeats 1000000 in
theorem zz_app (base : Nat) (v : Value) (bs : List Int) (s : ByteArray) (w : World) (hown : Own base w v bs) (hbase : base ≤ w.heap.size) (hs : s.size ≤ 1048576) (hl : bs.length ≤ 1000000000) :
    Calls Try.prog 20 #[v, .string s] w fun e w' => ∃ v', e = .returned v' ∧ Own base w' v' (bs ++ fld (sb s)) ∧ Below base w w' := by
  have H := hide (app_any base v bs s w hown hbase hs hl)
  clear hown hs hl
  go_enter Try.func20, Try.ntmps20
  go_wp2_with (go_at_call 30; refine (unhide H).mono ?_; rintro e w1 ⟨v', rfl, ho, hb⟩)
  go_ret
  exact ⟨_, rfl, ho, hb⟩

end Go.Proofs.Qxb6600108a
