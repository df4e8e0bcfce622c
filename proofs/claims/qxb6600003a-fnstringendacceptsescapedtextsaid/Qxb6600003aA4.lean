import Derived.Test.Qxb6600003aA2
import Derived.Test.Qxb6600003aA3
namespace Go.Proofs.Qxb6600003a
set_option linter.unusedVariables false
set_option linter.unusedSimpArgs false
open Go.RowKit Go.Zq Go.Zp

/-- A text of k bytes, escaped. -/
structure Esc (k : Nat) (x : List Int) : Prop where
  ok : OkT x
  pas : Pas x
  len : x.length ≤ 6 * k
  rng : ∀ c ∈ x, 0 ≤ c ∧ c < 256
theorem Esc.nil : Esc 0 [] := ⟨OkT.nil, Pas.nil, by simp, by simp⟩
theorem Esc.add {k : Nat} {x y : List Int} (hx : Esc k x) (hy : Esc 1 y) : Esc (k + 1) (x ++ y) :=
  ⟨hx.ok.append hy.ok, hx.pas.append hy.pas, by have := hx.len; have := hy.len; simp; omega, fun c hc => by
    rcases List.mem_append.1 hc with h | h
    · exact hx.rng c h
    · exact hy.rng c h⟩
theorem Esc.raw {c : Int} (h1 : c ≠ 34) (h2 : c ≠ 92) (h3 : 32 ≤ c) (h4 : c < 256) : Esc 1 [c] :=
  ⟨OkT.raw h1 h2 h3, Pas.raw h1 h2, by simp, fun d hd => by simp at hd; subst hd; omega⟩
theorem Esc.short {c : Int} (h : shortB c = true) (h1 : 0 ≤ c) (h2 : c < 256) : Esc 1 [92, c] :=
  ⟨OkT.short h, Pas.two c, by simp, fun d hd => by simp at hd; rcases hd with rfl | rfl <;> omega⟩
theorem hexD_rng (v : Int) (up : Bool) (h0 : 0 ≤ v) (h1 : v < 16) : 0 ≤ hexD v up ∧ hexD v up < 256 ∧ hexD v up ≠ 34 ∧ hexD v up ≠ 92 := by
  unfold hexD
  split
  · omega
  · cases up <;> simp <;> omega
theorem Esc.uni {a b : Int} (up : Bool) (ha0 : 0 ≤ a) (ha1 : a < 16) (hb0 : 0 ≤ b) (hb1 : b < 16) : Esc 1 [92, 117, 48, 48, hexD a up, hexD b up] := by
  have x := hexD_rng a up ha0 ha1
  have y := hexD_rng b up hb0 hb1
  refine ⟨OkT.uni (by decide) (by decide) (hexD_hex a up ha0 ha1) (hexD_hex b up hb0 hb1), ?_, by simp, fun d hd => ?_⟩
  · exact (Pas.two 117).append ((Pas.raw (c := 48) (by decide) (by decide)).append ((Pas.raw (c := 48) (by decide) (by decide)).append ((Pas.raw x.2.2.1 x.2.2.2).append (Pas.raw y.2.2.1 y.2.2.2))))
  · simp at hd
    rcases hd with rfl | rfl | rfl | rfl | rfl <;> omega

set_option maxHeartbeats 4000000 in
set_option maxRecDepth 100000 in
theorem body_any (base : Nat) (v : Value) (bs : List Int) (ad af : Option Addr) (n cs nf cf B : Nat) (ss fs : List Int) (w : World) (hown : Own base w v bs) (hb : base ≤ w.heap.size)
    (hrs : Rd w B ad cs ss) (hns : ss.length = n) (hrf : Rd w B af cf fs) (hnf : fs.length = nf) (hB : B ≤ base) (hrg : ∀ c ∈ ss, 0 ≤ c ∧ c < 256) (hl1 : n ≤ 100000) (hl2 : nf ≤ 100000) (hl3 : bs.length ≤ 1000000) :
    Calls Try.prog 19 #[v, .slice ad n cs, .slice af nf cf] w fun e w' => ∃ v' X, e = .returned v' ∧ Own base w' v' (bs ++ X) ∧ Below base w w' ∧ Esc n X := by
  have HO := hide hown
  have HNS := hide hns
  have HNF := hide hnf
  have HRG := hide hrg
  clear hown hns hnf hrg
  go_enter Try.func19, Try.ntmps19
  go_wp2
  go_loopg [0, 7] n (fun g o i wr => ∃ (k : Nat) (X : List Int), k ≤ n ∧ g = n - k ∧ i = .int .i64 (k : Int) ∧ Own base wr o (bs ++ X) ∧ Below base w wr ∧ Esc k X)
  case atStart => exact ⟨0, [], Nat.zero_le _, rfl, rfl, by simpa using unhide HO, Below.refl _ _, Esc.nil⟩
  case round =>
    obtain ⟨k, X, hk, rfl, rfl, hown, hbel, hX⟩ := hrel
    have hsz := hbel.size
    by_cases hlt : k < n
    · rcases hrs.cells with hz | ⟨p1, o1, rfl, hp1, hc1⟩
      · have := unhide HNS; omega
      have hcw := hc1 k (by have := unhide HNS; omega)
      have hrk := unhide HRG _ (bat_mem ss k (by have := unhide HNS; omega))
      clear hc1
      obtain ⟨b, hbe⟩ : ∃ b, b = bat ss k := ⟨_, rfl⟩
      rw [← hbe] at hcw hrk
      clear hbe
      have hcell := (hbel.cell (p := ⟨p1, o1 + k, none⟩) (by simp only; omega)).trans hcw
      have hrf2 := (hrf.mono hB).keep hbel
      have hlen : (bs ++ X).length ≤ 2000000 := by have := hX.len; simp; omega
      obtain ⟨cu, hcu⟩ : ∃ cu, cu = bs ++ X := ⟨_, rfl⟩
      rw [← hcu] at hown hlen
      have HC := hide hcu
      have HX := hide hX
      obtain ⟨hb0, hb1⟩ := hrk
      clear hcu hX hcw
      have hform := form_any af nf cf base k fs wr hrf2 (unhide HNF) (by omega) (by omega)
      have HFM := hide hform
      clear hform hrf2
      rcases (show (128 ≤ b) ∨ b = 34 ∨ b = 92 ∨ b = 47 ∨ b = 8 ∨ b = 9 ∨ b = 10 ∨ b = 12 ∨ b = 13 ∨ (b < 32 ∧ b ≠ 8 ∧ b ≠ 9 ∧ b ≠ 10 ∧ b ≠ 12 ∧ b ≠ 13) ∨ (32 ≤ b ∧ b < 128 ∧ b ≠ 34 ∧ b ≠ 92 ∧ b ≠ 47) from by omega) with h | rfl | rfl | rfl | rfl | rfl | rfl | rfl | rfl | ⟨h, h8, h9, h10, h12, h13⟩ | ⟨h, h128, h34, h92, h47⟩
      · have t34 : (b == 34) = false := beq_eq_false_iff_ne.2 (by omega)
        have t92 : (b == 92) = false := beq_eq_false_iff_ne.2 (by omega)
        have t47 : (b == 47) = false := beq_eq_false_iff_ne.2 (by omega)
        have hsh : shE b = 0 := by unfold shE; rw [if_neg (by omega), if_neg (by omega), if_neg (by omega), if_neg (by omega), if_neg (by omega)]
        have tsh : (shE b != 0) = false := by rw [hsh]; rfl
        have HSH := hide hsh
        clear hsh
        go_wp2_with fail
        refine (unhide HFM).mono ?_
        rintro e w' ⟨f, rfl, rfl⟩
        go_wp2_with (first
          | (go_at_call 35; refine (she_any _ _).mono ?_; rintro e w' ⟨rfl, rfl⟩)
          | (at_builtin; refine wpList_append_lit _ rfl (.tmp 45) (.tmp 47) 22 rfl base Try.underlying22 Try.info5 _ cu [b] 1 _ w rfl rfl rfl rfl hown hbel (by omega) (by omega) ?_; intro v1 w1 hown1 hbel1 hsz1))
        go_roundg (n - (k + 1))
        case measure => omega
        case rel => exact ⟨k + 1, X ++ [b], by omega, rfl, by go_num, by rw [← List.append_assoc, ← unhide HC]; exact hown1, hbel1, (unhide HX).add (Esc.raw (by omega) (by omega) (by omega) (by omega))⟩
      · go_wp2_with fail
        refine (unhide HFM).mono ?_
        rintro e w' ⟨f, rfl, rfl⟩
        cases h4 : (bits BinOp.and IntKind.u8 f 4 != 0)
        · go_wp2_with (first
            | (at_builtin; refine wpList_append_lit _ rfl (.tmp 52) (.tmp 53) 22 rfl base Try.underlying22 Try.info5 _ cu [92, 34] 2 _ w rfl rfl rfl rfl hown hbel (by omega) (by omega) ?_; intro v1 w1 hown1 hbel1 hsz1))
          go_roundg (n - (k + 1))
          case measure => omega
          case rel => exact ⟨k + 1, X ++ [92, 34], by omega, rfl, by go_num, by rw [← List.append_assoc, ← unhide HC]; exact hown1, hbel1, (unhide HX).add (Esc.short (by decide) (by omega) (by omega))⟩
        · go_wp2_with (first
            | (go_at_call 34; refine (hexd_any _ _ _ (by omega) (by omega)).mono ?_; rintro e w' ⟨rfl, rfl⟩)
            | (at_builtin; refine wpList_append_lit _ rfl (.tmp 34) (.tmp 43) 22 rfl base Try.underlying22 Try.info5 _ cu [92, 117, 48, 48, hexD (2) (bits BinOp.and IntKind.u8 f 2 != 0), hexD (2) (bits BinOp.and IntKind.u8 f 2 != 0)] 6 _ w rfl rfl rfl rfl hown hbel (by omega) (by omega) ?_; intro v1 w1 hown1 hbel1 hsz1))
          go_roundg (n - (k + 1))
          case measure => omega
          case rel => exact ⟨k + 1, X ++ [92, 117, 48, 48, hexD (2) (bits BinOp.and IntKind.u8 f 2 != 0), hexD (2) (bits BinOp.and IntKind.u8 f 2 != 0)], by omega, rfl, by go_num, by rw [← List.append_assoc, ← unhide HC]; exact hown1, hbel1, (unhide HX).add (Esc.uni _ (by omega) (by omega) (by omega) (by omega))⟩
      · go_wp2_with fail
        refine (unhide HFM).mono ?_
        rintro e w' ⟨f, rfl, rfl⟩
        cases h4 : (bits BinOp.and IntKind.u8 f 4 != 0)
        · go_wp2_with (first
            | (at_builtin; refine wpList_append_lit _ rfl (.tmp 58) (.tmp 59) 22 rfl base Try.underlying22 Try.info5 _ cu [92, 92] 2 _ w rfl rfl rfl rfl hown hbel (by omega) (by omega) ?_; intro v1 w1 hown1 hbel1 hsz1))
          go_roundg (n - (k + 1))
          case measure => omega
          case rel => exact ⟨k + 1, X ++ [92, 92], by omega, rfl, by go_num, by rw [← List.append_assoc, ← unhide HC]; exact hown1, hbel1, (unhide HX).add (Esc.short (by decide) (by omega) (by omega))⟩
        · go_wp2_with (first
            | (go_at_call 34; refine (hexd_any _ _ _ (by omega) (by omega)).mono ?_; rintro e w' ⟨rfl, rfl⟩)
            | (at_builtin; refine wpList_append_lit _ rfl (.tmp 34) (.tmp 43) 22 rfl base Try.underlying22 Try.info5 _ cu [92, 117, 48, 48, hexD (5) (bits BinOp.and IntKind.u8 f 2 != 0), hexD (12) (bits BinOp.and IntKind.u8 f 2 != 0)] 6 _ w rfl rfl rfl rfl hown hbel (by omega) (by omega) ?_; intro v1 w1 hown1 hbel1 hsz1))
          go_roundg (n - (k + 1))
          case measure => omega
          case rel => exact ⟨k + 1, X ++ [92, 117, 48, 48, hexD (5) (bits BinOp.and IntKind.u8 f 2 != 0), hexD (12) (bits BinOp.and IntKind.u8 f 2 != 0)], by omega, rfl, by go_num, by rw [← List.append_assoc, ← unhide HC]; exact hown1, hbel1, (unhide HX).add (Esc.uni _ (by omega) (by omega) (by omega) (by omega))⟩
      · go_wp2_with fail
        refine (unhide HFM).mono ?_
        rintro e w' ⟨f, rfl, rfl⟩
        cases h4 : (bits BinOp.and IntKind.u8 f 4 != 0)
        · cases h8 : (bits BinOp.and IntKind.u8 f 8 != 0)
          · go_wp2_with (first
              | (go_at_call 35; refine (she_any _ _).mono ?_; rintro e w' ⟨rfl, rfl⟩)
              | (at_builtin; refine wpList_append_lit _ rfl (.tmp 45) (.tmp 47) 22 rfl base Try.underlying22 Try.info5 _ cu [47] 1 _ w rfl rfl rfl rfl hown hbel (by omega) (by omega) ?_; intro v1 w1 hown1 hbel1 hsz1))
            go_roundg (n - (k + 1))
            case measure => omega
            case rel => exact ⟨k + 1, X ++ [47], by omega, rfl, by go_num, by rw [← List.append_assoc, ← unhide HC]; exact hown1, hbel1, (unhide HX).add (Esc.raw (by omega) (by omega) (by omega) (by omega))⟩
          · go_wp2_with (first
              | (at_builtin; refine wpList_append_lit _ rfl (.tmp 69) (.tmp 70) 22 rfl base Try.underlying22 Try.info5 _ cu [92, 47] 2 _ w rfl rfl rfl rfl hown hbel (by omega) (by omega) ?_; intro v1 w1 hown1 hbel1 hsz1))
            go_roundg (n - (k + 1))
            case measure => omega
            case rel => exact ⟨k + 1, X ++ [92, 47], by omega, rfl, by go_num, by rw [← List.append_assoc, ← unhide HC]; exact hown1, hbel1, (unhide HX).add (Esc.short (by decide) (by omega) (by omega))⟩
        · go_wp2_with (first
            | (go_at_call 34; refine (hexd_any _ _ _ (by omega) (by omega)).mono ?_; rintro e w' ⟨rfl, rfl⟩)
            | (at_builtin; refine wpList_append_lit _ rfl (.tmp 34) (.tmp 43) 22 rfl base Try.underlying22 Try.info5 _ cu [92, 117, 48, 48, hexD (2) (bits BinOp.and IntKind.u8 f 2 != 0), hexD (15) (bits BinOp.and IntKind.u8 f 2 != 0)] 6 _ w rfl rfl rfl rfl hown hbel (by omega) (by omega) ?_; intro v1 w1 hown1 hbel1 hsz1))
          go_roundg (n - (k + 1))
          case measure => omega
          case rel => exact ⟨k + 1, X ++ [92, 117, 48, 48, hexD (2) (bits BinOp.and IntKind.u8 f 2 != 0), hexD (15) (bits BinOp.and IntKind.u8 f 2 != 0)], by omega, rfl, by go_num, by rw [← List.append_assoc, ← unhide HC]; exact hown1, hbel1, (unhide HX).add (Esc.uni _ (by omega) (by omega) (by omega) (by omega))⟩
      · go_wp2_with fail
        refine (unhide HFM).mono ?_
        rintro e w' ⟨f, rfl, rfl⟩
        cases h4 : (bits BinOp.and IntKind.u8 f 4 != 0)
        · have tsh : (shE 8 != 0) = true := rfl
          go_wp2_with (first
            | (go_at_call 35; refine (she_any _ _).mono ?_; rintro e w' ⟨rfl, rfl⟩)
            | (at_builtin; refine wpList_append_lit _ rfl (.tmp 76) (.tmp 79) 22 rfl base Try.underlying22 Try.info5 _ cu [92, shE 8] 2 _ w rfl rfl rfl rfl hown hbel (by omega) (by omega) ?_; intro v1 w1 hown1 hbel1 hsz1))
          go_roundg (n - (k + 1))
          case measure => omega
          case rel => exact ⟨k + 1, X ++ [92, shE 8], by omega, rfl, by go_num, by rw [← List.append_assoc, ← unhide HC]; exact hown1, hbel1, (unhide HX).add (Esc.short (by decide) (by decide) (by decide))⟩
        · go_wp2_with (first
            | (go_at_call 34; refine (hexd_any _ _ _ (by omega) (by omega)).mono ?_; rintro e w' ⟨rfl, rfl⟩)
            | (at_builtin; refine wpList_append_lit _ rfl (.tmp 34) (.tmp 43) 22 rfl base Try.underlying22 Try.info5 _ cu [92, 117, 48, 48, hexD (0) (bits BinOp.and IntKind.u8 f 2 != 0), hexD (8) (bits BinOp.and IntKind.u8 f 2 != 0)] 6 _ w rfl rfl rfl rfl hown hbel (by omega) (by omega) ?_; intro v1 w1 hown1 hbel1 hsz1))
          go_roundg (n - (k + 1))
          case measure => omega
          case rel => exact ⟨k + 1, X ++ [92, 117, 48, 48, hexD (0) (bits BinOp.and IntKind.u8 f 2 != 0), hexD (8) (bits BinOp.and IntKind.u8 f 2 != 0)], by omega, rfl, by go_num, by rw [← List.append_assoc, ← unhide HC]; exact hown1, hbel1, (unhide HX).add (Esc.uni _ (by omega) (by omega) (by omega) (by omega))⟩
      · go_wp2_with fail
        refine (unhide HFM).mono ?_
        rintro e w' ⟨f, rfl, rfl⟩
        cases h4 : (bits BinOp.and IntKind.u8 f 4 != 0)
        · have tsh : (shE 9 != 0) = true := rfl
          go_wp2_with (first
            | (go_at_call 35; refine (she_any _ _).mono ?_; rintro e w' ⟨rfl, rfl⟩)
            | (at_builtin; refine wpList_append_lit _ rfl (.tmp 76) (.tmp 79) 22 rfl base Try.underlying22 Try.info5 _ cu [92, shE 9] 2 _ w rfl rfl rfl rfl hown hbel (by omega) (by omega) ?_; intro v1 w1 hown1 hbel1 hsz1))
          go_roundg (n - (k + 1))
          case measure => omega
          case rel => exact ⟨k + 1, X ++ [92, shE 9], by omega, rfl, by go_num, by rw [← List.append_assoc, ← unhide HC]; exact hown1, hbel1, (unhide HX).add (Esc.short (by decide) (by decide) (by decide))⟩
        · go_wp2_with (first
            | (go_at_call 34; refine (hexd_any _ _ _ (by omega) (by omega)).mono ?_; rintro e w' ⟨rfl, rfl⟩)
            | (at_builtin; refine wpList_append_lit _ rfl (.tmp 34) (.tmp 43) 22 rfl base Try.underlying22 Try.info5 _ cu [92, 117, 48, 48, hexD (0) (bits BinOp.and IntKind.u8 f 2 != 0), hexD (9) (bits BinOp.and IntKind.u8 f 2 != 0)] 6 _ w rfl rfl rfl rfl hown hbel (by omega) (by omega) ?_; intro v1 w1 hown1 hbel1 hsz1))
          go_roundg (n - (k + 1))
          case measure => omega
          case rel => exact ⟨k + 1, X ++ [92, 117, 48, 48, hexD (0) (bits BinOp.and IntKind.u8 f 2 != 0), hexD (9) (bits BinOp.and IntKind.u8 f 2 != 0)], by omega, rfl, by go_num, by rw [← List.append_assoc, ← unhide HC]; exact hown1, hbel1, (unhide HX).add (Esc.uni _ (by omega) (by omega) (by omega) (by omega))⟩
      · go_wp2_with fail
        refine (unhide HFM).mono ?_
        rintro e w' ⟨f, rfl, rfl⟩
        cases h4 : (bits BinOp.and IntKind.u8 f 4 != 0)
        · have tsh : (shE 10 != 0) = true := rfl
          go_wp2_with (first
            | (go_at_call 35; refine (she_any _ _).mono ?_; rintro e w' ⟨rfl, rfl⟩)
            | (at_builtin; refine wpList_append_lit _ rfl (.tmp 76) (.tmp 79) 22 rfl base Try.underlying22 Try.info5 _ cu [92, shE 10] 2 _ w rfl rfl rfl rfl hown hbel (by omega) (by omega) ?_; intro v1 w1 hown1 hbel1 hsz1))
          go_roundg (n - (k + 1))
          case measure => omega
          case rel => exact ⟨k + 1, X ++ [92, shE 10], by omega, rfl, by go_num, by rw [← List.append_assoc, ← unhide HC]; exact hown1, hbel1, (unhide HX).add (Esc.short (by decide) (by decide) (by decide))⟩
        · go_wp2_with (first
            | (go_at_call 34; refine (hexd_any _ _ _ (by omega) (by omega)).mono ?_; rintro e w' ⟨rfl, rfl⟩)
            | (at_builtin; refine wpList_append_lit _ rfl (.tmp 34) (.tmp 43) 22 rfl base Try.underlying22 Try.info5 _ cu [92, 117, 48, 48, hexD (0) (bits BinOp.and IntKind.u8 f 2 != 0), hexD (10) (bits BinOp.and IntKind.u8 f 2 != 0)] 6 _ w rfl rfl rfl rfl hown hbel (by omega) (by omega) ?_; intro v1 w1 hown1 hbel1 hsz1))
          go_roundg (n - (k + 1))
          case measure => omega
          case rel => exact ⟨k + 1, X ++ [92, 117, 48, 48, hexD (0) (bits BinOp.and IntKind.u8 f 2 != 0), hexD (10) (bits BinOp.and IntKind.u8 f 2 != 0)], by omega, rfl, by go_num, by rw [← List.append_assoc, ← unhide HC]; exact hown1, hbel1, (unhide HX).add (Esc.uni _ (by omega) (by omega) (by omega) (by omega))⟩
      · go_wp2_with fail
        refine (unhide HFM).mono ?_
        rintro e w' ⟨f, rfl, rfl⟩
        cases h4 : (bits BinOp.and IntKind.u8 f 4 != 0)
        · have tsh : (shE 12 != 0) = true := rfl
          go_wp2_with (first
            | (go_at_call 35; refine (she_any _ _).mono ?_; rintro e w' ⟨rfl, rfl⟩)
            | (at_builtin; refine wpList_append_lit _ rfl (.tmp 76) (.tmp 79) 22 rfl base Try.underlying22 Try.info5 _ cu [92, shE 12] 2 _ w rfl rfl rfl rfl hown hbel (by omega) (by omega) ?_; intro v1 w1 hown1 hbel1 hsz1))
          go_roundg (n - (k + 1))
          case measure => omega
          case rel => exact ⟨k + 1, X ++ [92, shE 12], by omega, rfl, by go_num, by rw [← List.append_assoc, ← unhide HC]; exact hown1, hbel1, (unhide HX).add (Esc.short (by decide) (by decide) (by decide))⟩
        · go_wp2_with (first
            | (go_at_call 34; refine (hexd_any _ _ _ (by omega) (by omega)).mono ?_; rintro e w' ⟨rfl, rfl⟩)
            | (at_builtin; refine wpList_append_lit _ rfl (.tmp 34) (.tmp 43) 22 rfl base Try.underlying22 Try.info5 _ cu [92, 117, 48, 48, hexD (0) (bits BinOp.and IntKind.u8 f 2 != 0), hexD (12) (bits BinOp.and IntKind.u8 f 2 != 0)] 6 _ w rfl rfl rfl rfl hown hbel (by omega) (by omega) ?_; intro v1 w1 hown1 hbel1 hsz1))
          go_roundg (n - (k + 1))
          case measure => omega
          case rel => exact ⟨k + 1, X ++ [92, 117, 48, 48, hexD (0) (bits BinOp.and IntKind.u8 f 2 != 0), hexD (12) (bits BinOp.and IntKind.u8 f 2 != 0)], by omega, rfl, by go_num, by rw [← List.append_assoc, ← unhide HC]; exact hown1, hbel1, (unhide HX).add (Esc.uni _ (by omega) (by omega) (by omega) (by omega))⟩
      · go_wp2_with fail
        refine (unhide HFM).mono ?_
        rintro e w' ⟨f, rfl, rfl⟩
        cases h4 : (bits BinOp.and IntKind.u8 f 4 != 0)
        · have tsh : (shE 13 != 0) = true := rfl
          go_wp2_with (first
            | (go_at_call 35; refine (she_any _ _).mono ?_; rintro e w' ⟨rfl, rfl⟩)
            | (at_builtin; refine wpList_append_lit _ rfl (.tmp 76) (.tmp 79) 22 rfl base Try.underlying22 Try.info5 _ cu [92, shE 13] 2 _ w rfl rfl rfl rfl hown hbel (by omega) (by omega) ?_; intro v1 w1 hown1 hbel1 hsz1))
          go_roundg (n - (k + 1))
          case measure => omega
          case rel => exact ⟨k + 1, X ++ [92, shE 13], by omega, rfl, by go_num, by rw [← List.append_assoc, ← unhide HC]; exact hown1, hbel1, (unhide HX).add (Esc.short (by decide) (by decide) (by decide))⟩
        · go_wp2_with (first
            | (go_at_call 34; refine (hexd_any _ _ _ (by omega) (by omega)).mono ?_; rintro e w' ⟨rfl, rfl⟩)
            | (at_builtin; refine wpList_append_lit _ rfl (.tmp 34) (.tmp 43) 22 rfl base Try.underlying22 Try.info5 _ cu [92, 117, 48, 48, hexD (0) (bits BinOp.and IntKind.u8 f 2 != 0), hexD (13) (bits BinOp.and IntKind.u8 f 2 != 0)] 6 _ w rfl rfl rfl rfl hown hbel (by omega) (by omega) ?_; intro v1 w1 hown1 hbel1 hsz1))
          go_roundg (n - (k + 1))
          case measure => omega
          case rel => exact ⟨k + 1, X ++ [92, 117, 48, 48, hexD (0) (bits BinOp.and IntKind.u8 f 2 != 0), hexD (13) (bits BinOp.and IntKind.u8 f 2 != 0)], by omega, rfl, by go_num, by rw [← List.append_assoc, ← unhide HC]; exact hown1, hbel1, (unhide HX).add (Esc.uni _ (by omega) (by omega) (by omega) (by omega))⟩
      · have t34 : (b == 34) = false := beq_eq_false_iff_ne.2 (by omega)
        have t92 : (b == 92) = false := beq_eq_false_iff_ne.2 (by omega)
        have t47 : (b == 47) = false := beq_eq_false_iff_ne.2 (by omega)
        have hsh : shE b = 0 := by unfold shE; rw [if_neg (by omega), if_neg (by omega), if_neg (by omega), if_neg (by omega), if_neg (by omega)]
        have tsh : (shE b != 0) = false := by rw [hsh]; rfl
        have HSH := hide hsh
        clear hsh
        go_wp2_with fail
        refine (unhide HFM).mono ?_
        rintro e w' ⟨f, rfl, rfl⟩
        cases h4 : (bits BinOp.and IntKind.u8 f 4 != 0)
        · go_wp2_with (first
            | (go_at_call 35; refine (she_any _ _).mono ?_; rintro e w' ⟨rfl, rfl⟩)
            | (go_at_call 34; refine (hexd_any _ _ _ (by omega) (by omega)).mono ?_; rintro e w' ⟨rfl, rfl⟩)
            | (at_builtin; refine wpList_append_lit _ rfl (.tmp 84) (.tmp 93) 22 rfl base Try.underlying22 Try.info5 _ cu [92, 117, 48, 48, hexD (b / 16) (bits BinOp.and IntKind.u8 f 2 != 0), hexD (b % 16) (bits BinOp.and IntKind.u8 f 2 != 0)] 6 _ w rfl rfl rfl rfl hown hbel (by omega) (by omega) ?_; intro v1 w1 hown1 hbel1 hsz1))
          go_roundg (n - (k + 1))
          case measure => omega
          case rel => exact ⟨k + 1, X ++ [92, 117, 48, 48, hexD (b / 16) (bits BinOp.and IntKind.u8 f 2 != 0), hexD (b % 16) (bits BinOp.and IntKind.u8 f 2 != 0)], by omega, rfl, by go_num, by rw [← List.append_assoc, ← unhide HC]; exact hown1, hbel1, (unhide HX).add (Esc.uni _ (by omega) (by omega) (by omega) (by omega))⟩
        · go_wp2_with (first
            | (go_at_call 34; refine (hexd_any _ _ _ (by omega) (by omega)).mono ?_; rintro e w' ⟨rfl, rfl⟩)
            | (at_builtin; refine wpList_append_lit _ rfl (.tmp 34) (.tmp 43) 22 rfl base Try.underlying22 Try.info5 _ cu [92, 117, 48, 48, hexD (b / 16) (bits BinOp.and IntKind.u8 f 2 != 0), hexD (b % 16) (bits BinOp.and IntKind.u8 f 2 != 0)] 6 _ w rfl rfl rfl rfl hown hbel (by omega) (by omega) ?_; intro v1 w1 hown1 hbel1 hsz1))
          go_roundg (n - (k + 1))
          case measure => omega
          case rel => exact ⟨k + 1, X ++ [92, 117, 48, 48, hexD (b / 16) (bits BinOp.and IntKind.u8 f 2 != 0), hexD (b % 16) (bits BinOp.and IntKind.u8 f 2 != 0)], by omega, rfl, by go_num, by rw [← List.append_assoc, ← unhide HC]; exact hown1, hbel1, (unhide HX).add (Esc.uni _ (by omega) (by omega) (by omega) (by omega))⟩
      · have t34 : (b == 34) = false := beq_eq_false_iff_ne.2 (by omega)
        have t92 : (b == 92) = false := beq_eq_false_iff_ne.2 (by omega)
        have t47 : (b == 47) = false := beq_eq_false_iff_ne.2 (by omega)
        have hsh : shE b = 0 := by unfold shE; rw [if_neg (by omega), if_neg (by omega), if_neg (by omega), if_neg (by omega), if_neg (by omega)]
        have tsh : (shE b != 0) = false := by rw [hsh]; rfl
        have HSH := hide hsh
        clear hsh
        go_wp2_with fail
        refine (unhide HFM).mono ?_
        rintro e w' ⟨f, rfl, rfl⟩
        cases h4 : (bits BinOp.and IntKind.u8 f 4 != 0)
        · go_wp2_with (first
            | (go_at_call 35; refine (she_any _ _).mono ?_; rintro e w' ⟨rfl, rfl⟩)
            | (at_builtin; refine wpList_append_lit _ rfl (.tmp 45) (.tmp 47) 22 rfl base Try.underlying22 Try.info5 _ cu [b] 1 _ w rfl rfl rfl rfl hown hbel (by omega) (by omega) ?_; intro v1 w1 hown1 hbel1 hsz1))
          go_roundg (n - (k + 1))
          case measure => omega
          case rel => exact ⟨k + 1, X ++ [b], by omega, rfl, by go_num, by rw [← List.append_assoc, ← unhide HC]; exact hown1, hbel1, (unhide HX).add (Esc.raw (by omega) (by omega) (by omega) (by omega))⟩
        · go_wp2_with (first
            | (go_at_call 34; refine (hexd_any _ _ _ (by omega) (by omega)).mono ?_; rintro e w' ⟨rfl, rfl⟩)
            | (at_builtin; refine wpList_append_lit _ rfl (.tmp 34) (.tmp 43) 22 rfl base Try.underlying22 Try.info5 _ cu [92, 117, 48, 48, hexD (b / 16) (bits BinOp.and IntKind.u8 f 2 != 0), hexD (b % 16) (bits BinOp.and IntKind.u8 f 2 != 0)] 6 _ w rfl rfl rfl rfl hown hbel (by omega) (by omega) ?_; intro v1 w1 hown1 hbel1 hsz1))
          go_roundg (n - (k + 1))
          case measure => omega
          case rel => exact ⟨k + 1, X ++ [92, 117, 48, 48, hexD (b / 16) (bits BinOp.and IntKind.u8 f 2 != 0), hexD (b % 16) (bits BinOp.and IntKind.u8 f 2 != 0)], by omega, rfl, by go_num, by rw [← List.append_assoc, ← unhide HC]; exact hown1, hbel1, (unhide HX).add (Esc.uni _ (by omega) (by omega) (by omega) (by omega))⟩
    · have ek : k = n := by omega
      go_wp2
      go_ret
      subst ek
      exact ⟨_, X, rfl, hown, hbel, hX⟩

set_option maxHeartbeats 1000000 in
theorem esc_any (base : Nat) (v : Value) (bs : List Int) (ad af : Option Addr) (n cs nf cf B : Nat) (ss fs : List Int) (w : World) (hown : Own base w v bs) (hb : base ≤ w.heap.size)
    (hrs : Rd w B ad cs ss) (hns : ss.length = n) (hrf : Rd w B af cf fs) (hnf : fs.length = nf) (hB : B ≤ base) (hrg : ∀ c ∈ ss, 0 ≤ c ∧ c < 256) (hl1 : n ≤ 100000) (hl2 : nf ≤ 100000) (hl3 : bs.length ≤ 500000) :
    Calls Try.prog 13 #[v, .slice ad n cs, .slice af nf cf] w fun e w' => ∃ v' X, e = .returned v' ∧ Own base w' v' (((bs ++ [34]) ++ X) ++ [34]) ∧ Below base w w' ∧ Esc n X := by
  have hbel0 := Below.refl base w
  have HB := hide (And.intro hrs (And.intro hrf (And.intro hns (And.intro hnf hrg))))
  clear hrs hrf hns hnf hrg
  go_enter Try.func13, Try.ntmps13
  go_wp2_with (first
    | (at_builtin; refine wpList_append_lit _ rfl (.tmp 7) (.tmp 8) 22 rfl base Try.underlying22 Try.info5 _ bs [34] 1 _ w rfl rfl rfl rfl hown hbel0 (by omega) (by omega) ?_; intro v1 w1 hown1 hbel1 hsz1)
    | (go_at_call 19; refine (body_any base _ (bs ++ [34]) ad af n cs nf cf base ss fs _ hown1 hsz1 (((unhide HB).1.mono hB).keep hbel1) (unhide HB).2.2.1 (((unhide HB).2.1.mono hB).keep hbel1) (unhide HB).2.2.2.1 (Nat.le_refl _) (unhide HB).2.2.2.2 hl1 hl2 (by simp; omega)).mono ?_; rintro e w2 ⟨v2, X, rfl, hown2, hbelx, hX⟩; have hbel2 := hbel1.trans hbelx; have hsz2 := hbel2.size; have hXl := hX.len)
    | (at_builtin; refine wpList_append_lit _ rfl (.tmp 14) (.tmp 15) 22 rfl base Try.underlying22 Try.info5 _ ((bs ++ [34]) ++ X) [34] 1 _ w rfl rfl rfl rfl hown2 hbel2 (by simp; omega) (by omega) ?_; intro v3 w3 hown3 hbel3 hsz3))
  go_ret
  exact ⟨_, X, rfl, hown3, hbel3, hX⟩

end Go.Proofs.Qxb6600003a
