import Derived.Test.Qxb6002687aL4
namespace Go.Proofs.Qxb6002687a
set_option linter.unusedVariables false
set_option linter.unusedSimpArgs false
open Go.RowKit Go.Zq Go.Zp

/-- the array's text before its closing bracket, after k strings -/
def arrK (ss : List ByteArray) (k : Nat) : List Int := 91 :: joinK (fun i => enc (sB (sat ss i))) k
theorem arrK_zero (ss : List ByteArray) : arrK ss 0 = [91] := rfl
theorem arrK_one (ss : List ByteArray) : arrK ss 1 = arrK ss 0 ++ enc (sB (sat ss 0)) := by simp [arrK, joinK]
theorem arrK_succ (ss : List ByteArray) (k : Nat) (h : 0 < k) : arrK ss (k + 1) = (arrK ss k ++ [44]) ++ enc (sB (sat ss k)) := by
  have : ¬ k = 0 := by omega
  simp [arrK, joinK, this]
theorem arrK_len (ss : List ByteArray) (k : Nat) (h : k ≤ ss.length) : (arrK ss k).length ≤ 1 + 3 * k + 6 * tot (ss.take k) := by
  induction k with
  | zero => simp [arrK, joinK]
  | succ k ih =>
    have h1 := enc_len (sB (sat ss k))
    rw [sB_length] at h1
    have h2 := ih (by omega)
    have h3 := tot_snoc ss k (by omega)
    by_cases hk : k = 0
    · subst hk; rw [arrK_one, List.length_append]; omega
    · rw [arrK_succ ss k (by omega), List.length_append, List.length_append]; simp only [List.length_cons, List.length_nil]; omega
theorem tot_take_le (ss : List ByteArray) (k : Nat) : tot (ss.take k) ≤ tot ss := by
  have h : tot ss = tot (ss.take k) + tot (ss.drop k) := by
    conv => lhs; rw [← List.take_append_drop k ss]
    simp only [tot, List.map_append, List.sum_append]
  omega
theorem sat_tot (ss : List ByteArray) (k : Nat) (h : k < ss.length) : (sat ss k).size ≤ tot ss := by
  have := tot_snoc ss k h
  have := tot_take_le ss (k + 1)
  omega

def gOf (sh : List Int) (j : Nat) : Bool × Bool := (bits BinOp.and IntKind.u8 (bat sh j) 1 == 0, bits BinOp.and IntKind.u8 (bat sh j) 2 != 0)
/-- the whole value behind j wrappings -/
def valJ (ss : List ByteArray) (sh : List Int) (j : Nat) : List Int := wraps (gOf sh) (arrK ss ss.length ++ [93]) j
theorem valJ_succ (ss : List ByteArray) (sh : List Int) (j : Nat) : valJ ss sh (j + 1) = wrapB (bits BinOp.and IntKind.u8 (bat sh j) 1 == 0) (bits BinOp.and IntKind.u8 (bat sh j) 2 != 0) (valJ ss sh j) := rfl
theorem valJ_whole (ss : List ByteArray) (sh : List Int) (j : Nat) : Whole (valJ ss sh j) := by
  refine Whole.wraps ⟨91, _, 93, rfl, Bal.joinK (fun i => Bal.enc _ (sB_nonneg _)) _, .inr rfl, .inr rfl⟩ _ j
theorem valJ_len (ss : List ByteArray) (sh : List Int) (j : Nat) : (valJ ss sh j).length ≤ 2 + 3 * ss.length + 6 * tot ss + 16 * j := by
  have h1 := wraps_len (gOf sh) (arrK ss ss.length ++ [93]) j
  have h2 := arrK_len ss ss.length (Nat.le_refl _)
  rw [List.take_length] at h2
  simp only [List.length_append, List.length_cons, List.length_nil] at h1
  unfold valJ
  omega

theorem Own.built1 (w : World) (c : Int) : Own w.heap.size (w.alloc (.cells #[.int .u8 c] 5)) (.slice (some ⟨w.heap.size, 0, none⟩) 1 1) [c] :=
  ⟨rfl, .inr ⟨w.heap.size, 1, _, rfl, Nat.le_refl _, heap_alloc_new w _, Nat.le_refl _, by simp [maxLen], rfl, rfl⟩⟩

set_option maxHeartbeats 4000000 in
theorem law4_main (ws : ByteArray) (a1 a2 a3 : Option Addr) (n1 c1 n2 c2 n3 c3 : Nat) (ss : List ByteArray) (sh rs : List Int) (w : World) (h0 : ws.size ≤ 65536) (h1 : n1 ≤ 64) (h2 : n2 ≤ 1024) (h3 : n3 ≤ 65536)
    (hr1 : Rd w w.heap.size a1 c1 sh) (hn1 : sh.length = n1) (hr2 : RdS w w.heap.size a2 c2 ss) (hn2 : ss.length = n2) (hr3 : Rd w w.heap.size a3 c3 rs) (hn3 : rs.length = n3) :
    Calls Try.prog 4 #[.string ws, .slice a1 n1 c1, .slice a2 n2 c2, .slice a3 n3 c3] w fun e w' => e = .returned (.bool true) ∧ Below w.heap.size w w' := by
  have hb16 := bytes16_any ws a1 a2 a3 n1 c1 n2 c2 n3 c3 _ ss w (by unfold maxLen; omega) (by unfold maxLen; omega) (by unfold maxLen; omega) hr2 hn2
  have hb17 := over_any a2 n2 c2 _ ss w 65536 (by omega) hr2 hn2
  have H16 := hide hb16
  have H17 := hide hb17
  have HN1 := hide hn1
  have HN2 := hide hn2
  have HN3 := hide hn3
  clear hb16 hb17 hn1 hn2 hn3
  have e0 : decide ((65536 : Int) < (ws.size : Int)) = false := by simp; omega
  have e1 : decide ((64 : Int) < (n1 : Int)) = false := by simp; omega
  have e2 : decide ((1024 : Int) < (n2 : Int)) = false := by simp; omega
  have e3 : decide ((65536 : Int) < (n3 : Int)) = false := by simp; omega
  go_enter Try.func4, Try.ntmps4
  go_wp2_with fail
  refine (unhide H16).mono ?_
  rintro e w0 ⟨⟨y, rfl, _⟩, rfl⟩
  cases y
  · go_wp2
    go_ret
    exact ⟨rfl, Below.refl _ _⟩
  go_wp2_with fail
  refine (unhide H17).mono ?_
  rintro e w0 ⟨⟨y, rfl, htot⟩, rfl⟩
  cases y
  case true =>
    go_wp2
    go_ret
    exact ⟨rfl, Below.refl _ _⟩
  have ht : tot ss ≤ 65536 := htot rfl
  clear htot
  go_wp2_with fail
  refine (clone_rd a1 n1 c1 sh w hr1 (unhide HN1) (by omega)).mono ?_
  rintro e w1 ⟨b1, d1, rfl, hr1', hB1⟩
  have hr2 := hr2.step hB1
  have hr3 := hr3.step hB1
  clear hr1
  go_wp2_with fail
  refine (cloneS_any a2 n2 c2 ss w1 w1.heap.size hr2 (Nat.le_refl _) (unhide HN2) (by omega)).mono ?_
  rintro e w2 ⟨b2, d2, rfl, hr2', hB2⟩
  have hr1 := hr1'.step hB2
  have hr3 := hr3.step hB2
  have hB2' := hB1.trans (hB2.mono hB1.size)
  clear hr1' hr2 hB1 hB2
  go_wp2_with fail
  refine (clone_rd a3 n3 c3 rs w2 hr3 (unhide HN3) (by omega)).mono ?_
  rintro e w3 ⟨b3, d3, rfl, hr3', hB3⟩
  have hr1 := hr1.step hB3
  have hr2 := hr2'.step hB3
  have hB3' := hB2'.trans (hB3.mono hB2'.size)
  clear hr2' hr3 hB3 hB2'
  go_wp2_with fail
  have hX0 := Own.built1 w3 91
  have hbX : Below w3.heap.size w3 (w3.alloc (.cells #[.int .u8 91] 5)) := (Below.refl _ _).alloc (Nat.le_refl _) _
  go_loopg [9, 10] n2 (fun g x i wr => ∃ k : Nat, k ≤ n2 ∧ g = n2 - k ∧ i = .int .i64 k ∧ Own w3.heap.size wr x (arrK ss k) ∧ Below w3.heap.size w3 wr)
  case atStart => exact ⟨0, Nat.zero_le _, rfl, rfl, hX0, hbX⟩
  case round =>
    clear hX0 hbX
    obtain ⟨k, hk, rfl, rfl, hown, hbel⟩ := hrel
    have hsz := hbel.size
    have hL := arrK_len ss k (by have := unhide HN2; omega)
    have hL2 := tot_take_le ss k
    by_cases hlt : k < n2
    · rcases hr2.cells with hz | ⟨bb, oo, rfl, hbb, hc⟩
      · have := unhide HN2; omega
      have hcw := hc k (by have := unhide HN2; omega)
      have hst := sat_tot ss k (by have := unhide HN2; omega)
      clear hc
      obtain ⟨s, hs0⟩ : ∃ s, s = sat ss k := ⟨_, rfl⟩
      rw [← hs0] at hcw hst
      have hcell := (hbel.cell (p := ⟨bb, oo + k, none⟩) hbb).trans hcw
      have HE := hide hs0
      clear hs0
      obtain ⟨cu, hcu⟩ : ∃ cu, cu = arrK ss k := ⟨_, rfl⟩
      rw [← hcu] at hown hL
      have HC := hide hcu
      clear hcu
      by_cases hk0 : 0 < k
      · go_wp2_with (first
          | (at_builtin; refine wpList_append_lit _ rfl (.tmp 59) (.tmp 60) 22 rfl w3.heap.size Try.underlying22 Try.info5 _ cu [44] 1 _ w3 rfl rfl rfl rfl hown hbel (by omega) (by omega) ?_; intro v5 w5 hown5 hbel5 hsz5; have hcell5 := (hbel5.cell (p := ⟨bb, oo + k, none⟩) hbb).trans hcw)
          | (go_at_call 11; refine (enc_any w3.heap.size _ (cu ++ [44]) s _ hown5 (by simp; omega) hsz5).mono ?_; rintro e w6 ⟨v6, rfl, hown6, hbel6⟩))
        go_roundg (n2 - (k + 1))
        case measure => omega
        case rel => exact ⟨k + 1, by omega, rfl, by go_num, by rw [arrK_succ ss k hk0, ← unhide HC, ← unhide HE]; exact hown6, hbel5.trans hbel6⟩
      · have hk1 : k = 0 := by omega
        subst hk1
        rw [Nat.add_zero] at hcell
        go_wp2_with (first
          | (go_at_call 11; refine (enc_any w3.heap.size _ cu s _ hown (by omega) hsz).mono ?_; rintro e w6 ⟨v6, rfl, hown6, hbel6⟩))
        go_roundg (n2 - (0 + 1))
        case measure => omega
        case rel => exact ⟨0 + 1, by omega, rfl, by go_num, by rw [unhide HC, unhide HE] at hown6; rw [arrK_one]; exact hown6, hbel.trans hbel6⟩
    · go_wp2_with (first
          | (at_builtin; refine wpList_append_lit _ rfl (.tmp 68) (.tmp 69) 22 rfl w3.heap.size Try.underlying22 Try.info5 _ (arrK ss k) [93] 1 _ w3 rfl rfl rfl rfl hown hbel (by omega) (by omega) ?_; intro v5 w5 hown5 hbel5 hsz5)
          | (fail))
      have ek : k = ss.length := by have := unhide HN2; omega
      rw [ek] at hown5
      have hv : Own w3.heap.size w5 v5 (valJ ss sh 0) := hown5
      clear hown5 hown ek hL hL2
      obtain ⟨ax, cx, rfl, hrx⟩ := hv.rd
      clear hv
      have hB5 : Below w.heap.size w w5 := hB3'.trans (hbel5.mono hB3'.size)
      have hr1 := (hr1.keep hbel5).mono hsz5
      have hr3 := (hr3'.keep hbel5).mono hsz5
      clear hr3' hbel hsz hr2 hbel5
      go_loopg [9, 11] n1 (fun g x i wr => ∃ (j m : Nat) (ax : Option Addr) (cx : Nat), j ≤ n1 ∧ g = n1 - j ∧ i = .int .i64 j ∧ x = .slice ax m cx ∧ (valJ ss sh j).length = m ∧ Rd wr wr.heap.size ax cx (valJ ss sh j) ∧ Rd wr wr.heap.size b1 d1 sh ∧ Rd wr wr.heap.size b3 d3 rs ∧ Below w.heap.size w wr)
      case atStart => exact ⟨0, _, ax, cx, Nat.zero_le _, rfl, rfl, rfl, rfl, hrx, hr1, hr3, hB5⟩
      case round =>
        clear hrx hr1 hr3 hB5 hB3' hsz5
        obtain ⟨j, m, ax, cx, hj, rfl, rfl, rfl, hm, hrx, hr1, hr3, hB⟩ := hrel
        have hL := valJ_len ss sh j
        have hN2 : ss.length ≤ 1024 := by have := unhide HN2; omega
        have HM := hide hm
        have hm' : m ≤ 1000000 := by omega
        clear hm hL
        by_cases hlt : j < n1
        · rcases hr1.cells with hz | ⟨bb, oo, rfl, hbb, hc⟩
          · have := unhide HN1; omega
          have hcell := hc j (by have := unhide HN1; omega)
          clear hc
          go_wp2_with (first
            | (go_at_call 19; refine (wrap_rd _ m _ (valJ ss sh j) (bat sh j) _ hrx (unhide HM) (by omega) (valJ ss sh (j + 1)) (valJ_succ ss sh j)).mono ?_; rintro e w6 ⟨ay, cy, rfl, hry, hB6⟩))
          go_roundg (n1 - (j + 1))
          case measure => omega
          case rel => exact ⟨j + 1, _, ay, cy, by omega, rfl, by go_num, rfl, rfl, hry, hr1.step hB6, hr3.step hB6, hB.trans (hB6.mono hB.size)⟩
        · obtain ⟨X, hX⟩ : ∃ X, X = valJ ss sh j := ⟨_, rfl⟩
          have hw := valJ_whole ss sh j
          rw [← hX] at hrx HM hw
          have HW := hide hw
          clear hr1 hX hw
          have hlw := wsL_length (sB ws)
          rw [sB_length] at hlw
          have HLW := hide hlw
          clear hlw
          have hr3l := unhide HN3
          have HR3 := hide hr3l
          clear hr3l
          go_wp2_with fail
          refine (ws_any wr.heap.size (.slice none 0 0) [] ws wr (Own.nil _ _) (by simp; omega) (Nat.le_refl _)).mono ?_
          rintro e w6 ⟨v6, rfl, hown6, hbel6⟩
          rw [List.nil_append] at hown6
          have hex : ∃ aD cD, v6 = .slice aD ws.size cD := by
            obtain ⟨aD, cD, h, _⟩ := hown6.rd
            rw [unhide HLW] at h
            exact ⟨aD, cD, h⟩
          obtain ⟨aD, cD, rfl⟩ := hex
          have hsz6 := hbel6.size
          have hrx6 := hrx.keep hbel6
          go_wp2_with (first
            | (at_builtin; refine wpList_append_rd _ rfl (.tmp 87) (.tmp 88) 22 rfl wr.heap.size Try.underlying22 Try.info5 _ (wsL (sB ws)) X _ m _ wr.heap.size wr rfl rfl hrx6 (unhide HM) hown6 hbel6 (by rw [unhide HLW]; omega) hsz6 ?_; intro v7 w7 hown7 hbel7 hsz7; have hr37 := hr3.keep hbel7)
            | (at_builtin; refine wpList_append_rd _ rfl (.tmp 90) (.tmp 91) 22 rfl wr.heap.size Try.underlying22 Try.info5 _ (wsL (sB ws) ++ X) rs _ n3 _ wr.heap.size wr rfl rfl hr37 (unhide HN3) hown7 hbel7 (by rw [List.length_append, unhide HLW, unhide HM]; omega) hsz7 ?_; intro v8 w8 hown8 hbel8 hsz8))
          have hB8 : Below w.heap.size w w8 := hB.trans (hbel8.mono hB.size)
          have hrx8 := (hrx.keep hbel8).mono hsz8
          obtain ⟨aE, cE, rfl, hrE⟩ := hown8.rd
          clear hown6 hbel6 hsz6 hrx6 hown7 hbel7 hsz7 hr37 hown8 hbel8 hsz8 hrx hr3 hB
          refine (zz_whole w8 aE _ cE m (sB ws) X rs ws.size hrE rfl (by rw [List.length_append, List.length_append, unhide HLW, unhide HM, unhide HN3]; omega) (unhide HW) (unhide HM) (sB_length ws)).mono ?_
          rintro e w9 ⟨aG, cG, rfl, hrG, hB9⟩
          have hrx9 := hrx8.step hB9
          have hB9' := hB8.trans (hB9.mono hB8.size)
          clear hrE hrx8 hB8 hB9
          go_wp2_with fail
          refine (eq_bel aG ax m cG cx _ _ X w9 hrG hrx9 (unhide HM)).mono ?_
          rintro e w10 ⟨rfl, hB10⟩
          have hrx10 := hrx9.step hB10
          have hrG10 := hrG.step hB10
          have hB10' := hB9'.trans (hB10.mono hB9'.size)
          clear hrx9 hrG hB9' hB10
          go_wp2_with fail
          refine (clone_rd aG m cG X w10 hrG10 (unhide HM) (by omega)).mono ?_
          rintro e w11 ⟨aH, cH, rfl, hrH, hB11⟩
          have hrx11 := hrx10.step hB11
          have hB11' := hB10'.trans (hB11.mono hB10'.size)
          clear hrx10 hrG10 hB10' hB11
          go_wp2_with fail
          refine (zz_whole w11 aH m cH m [] X [] 0 (by simpa [wsL] using hrH) (by simpa [wsL] using unhide HM) (by omega) (unhide HW) (unhide HM) rfl).mono ?_
          rintro e w12 ⟨aI, cI, rfl, hrI, hB12⟩
          have hrx12 := hrx11.step hB12
          have hB12' := hB11'.trans (hB12.mono hB11'.size)
          clear hrx11 hrH hB11' hB12
          go_wp2_with fail
          refine (eq_bel aI ax m cI cx _ _ X w12 hrI hrx12 (unhide HM)).mono ?_
          rintro e w13 ⟨rfl, hB13⟩
          go_wp2
          go_ret
          exact ⟨rfl, hB12'.trans (hB13.mono hB12'.size)⟩

/-- THE WALK of the law. -/
theorem law4 (ws : ByteArray) (a1 a2 a3 : Option Addr) (n1 c1 n2 c2 n3 c3 : Nat) (ss : List ByteArray) (sh rs : List Int) (w : World) (h0 : ws.size ≤ maxLen)
    (hr1 : Rd w w.heap.size a1 c1 sh) (hn1 : sh.length = n1) (hr2 : RdS w w.heap.size a2 c2 ss) (hn2 : ss.length = n2) (hr3 : Rd w w.heap.size a3 c3 rs) (hn3 : rs.length = n3) :
    Calls Try.prog 4 #[.string ws, .slice a1 n1 c1, .slice a2 n2 c2, .slice a3 n3 c3] w fun e w' => e = .returned (.bool true) ∧ Below w.heap.size w w' := by
  by_cases h : ws.size ≤ 65536 ∧ n1 ≤ 64 ∧ n2 ≤ 1024 ∧ n3 ≤ 65536
  · exact law4_main ws a1 a2 a3 n1 c1 n2 c2 n3 c3 ss sh rs w h.1 h.2.1 h.2.2.1 h.2.2.2 hr1 hn1 hr2 hn2 hr3 hn3
  · exact law4_early ws a1 a2 a3 n1 c1 n2 c2 n3 c3 ss w h0 (by have := hr1.le; have := hr1.max; omega) (by have := hr3.le; have := hr3.max; omega) hr2 hn2 (by omega)

end Go.Proofs.Qxb6002687a
