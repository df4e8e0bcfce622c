import Derived.Test.Qxb6002687aM1
namespace Go.Proofs.Qxb6002687a
set_option linter.unusedVariables false
set_option linter.unusedSimpArgs false
open Go.RowKit Go.Zq Go.Zp

set_option maxHeartbeats 8000000 in
set_option maxRecDepth 100000 in
theorem law5_ge (a1 a2 : Option Addr) (n1 c1 n2 c2 : Nat) (ns vs : List ByteArray) (w : World)
    (hr1 : RdS w w.heap.size a1 c1 ns) (hn1 : ns.length = n1) (hr2 : RdS w w.heap.size a2 c2 vs) (hn2 : vs.length = n2) (h1 : n1 ≤ 1024) (h2 : n2 ≤ 1024) (hmin : ¬ n2 < n1) :
    Calls Try.prog 5 #[.slice a1 n1 c1, .slice a2 n2 c2] w fun e w' => e = .returned (.bool true) ∧ Below w.heap.size w w' := by
  have hb := bytes20_any a1 a2 n1 c1 n2 c2 _ ns vs w hr1 hr2 hn1 hn2
  have ho1 := over_any a1 n1 c1 _ ns w 32768 (by omega) hr1 hn1
  have ho2 := over_any a2 n2 c2 _ vs w 32768 (by omega) hr2 hn2
  have H20 := hide hb
  have HO1 := hide ho1
  have HO2 := hide ho2
  have HN1 := hide hn1
  have HN2 := hide hn2
  clear hb ho1 ho2 hn1 hn2
  have e1 : decide ((1024 : Int) < (n1 : Int)) = false := by simp; omega
  have e2 : decide ((1024 : Int) < (n2 : Int)) = false := by simp; omega
  obtain ⟨i0, hi, hz0, hz1, hz2⟩ := info_parts Try.info22
  go_enter Try.func5, Try.ntmps5
  go_wp2_with fail
  refine (unhide H20).mono ?_
  rintro e w0 ⟨⟨y, rfl, _⟩, rfl⟩
  cases y
  · go_wp2
    go_ret
    exact ⟨rfl, Below.refl _ _⟩
  go_wp2_with fail
  refine (unhide HO1).mono ?_
  rintro e w0 ⟨⟨y, rfl, ht1⟩, rfl⟩
  cases y
  case true =>
    go_wp2
    go_ret
    exact ⟨rfl, Below.refl _ _⟩
  have ht1 : tot ns ≤ 32768 := ht1 rfl
  go_wp2_with fail
  refine (unhide HO2).mono ?_
  rintro e w0 ⟨⟨y, rfl, ht2⟩, rfl⟩
  cases y
  case true =>
    go_wp2
    go_ret
    exact ⟨rfl, Below.refl _ _⟩
  have ht2 : tot vs ≤ 32768 := ht2 rfl
  clear HO1 HO2 H20
  go_wp2_with fail
  refine (cloneS_any a1 n1 c1 ns w w.heap.size hr1 (Nat.le_refl _) (unhide HN1) (by omega)).mono ?_
  rintro e w1 ⟨b1, d1, rfl, hr1', hB1⟩
  have hr2 := hr2.step hB1
  go_wp2_with fail
  refine (cloneS_any a2 n2 c2 vs w1 w1.heap.size hr2 (Nat.le_refl _) (unhide HN2) (by omega)).mono ?_
  rintro e w2 ⟨b2, d2, rfl, hr2', hB2⟩
  have hr1 := hr1'.step hB2
  have hB2' := hB1.trans (hB2.mono hB1.size)
  clear hr1' hr2 hB1 hB2
  go_wp2_with (first
    | (at_make; refine wpList_make_full _ rfl (.tmp 49) (.tmp 49) 37 rfl w2.heap.size 22 i0 (.slice none 0 0) 1 Try.underlying37 hi hz0 hz1 _ _ _ _ _ rfl rfl rfl rfl (by rw [hz2]; omega) (by unfold maxLen; omega) (Nat.le_refl _) ?_; intro w3 hown3 hg3)
    | (at_make; refine wpList_make_full _ rfl (.tmp 51) (.tmp 51) 37 rfl w3.heap.size 22 i0 (.slice none 0 0) 1 Try.underlying37 hi hz0 hz1 _ _ _ _ _ rfl rfl rfl rfl (by rw [hz2]; omega) (by unfold maxLen; omega) (Nat.le_refl _) ?_; intro w4 hown4 hg4))
  have hbel3 : Below w2.heap.size w2 w3 := (Below.refl _ _).grown hg3 (Nat.le_refl _) (by simp)
  have hbel4 : Below w3.heap.size w3 w4 := (Below.refl _ _).grown hg4 (Nat.le_refl _) (by simp)
  have hl3 : w2.heap.size < w3.heap.size := ((World.ownsRow.lt hown3) _ rfl).2
  have hl4 : w3.heap.size < w4.heap.size := ((World.ownsRow.lt hown4) _ rfl).2
  have arrN : Arr w4 w2.heap.size w4.heap.size n1 0 (nmL ns) := by
    obtain ⟨m1, m2⟩ := Arr.make hown3
    refine ⟨fun i hi => by omega, fun j hj => ?_, fun j => (hbel4.frozen (p := ⟨w2.heap.size, j, none⟩) hl3).trans (m2 j), by omega, Nat.le_refl _⟩
    obtain ⟨u, hu⟩ := m1 j hj
    exact ⟨u, (hbel4.cell (p := ⟨w2.heap.size, j, none⟩) hl3).trans hu⟩
  have arrV : Arr w4 w3.heap.size w4.heap.size n1 0 (fun _ => []) := by
    obtain ⟨m1, m2⟩ := Arr.make hown4
    exact ⟨fun i hi => by omega, m1, m2, hl4, Nat.le_refl _⟩
  have hbel5 : Below w2.heap.size w2 w4 := hbel3.trans (hbel4.mono (by omega))
  clear hown3 hown4 hg3 hg4 hbel3 hbel4 hi hz0 hz1 hz2
  go_loopg [8] n1 (fun g i wr => ∃ (k : Nat) (V : Nat → List Int), k ≤ n1 ∧ g = n1 - k ∧ i = .int .i64 k ∧ Arr wr w2.heap.size w4.heap.size n1 k (nmL ns) ∧ Arr wr w3.heap.size w4.heap.size n1 k V ∧ VP vs k V ∧ Below w2.heap.size w2 wr)
  case atStart => exact ⟨0, _, Nat.zero_le _, rfl, rfl, arrN, arrV, fun i hi => by omega, hbel5⟩
  case round =>
    clear arrN arrV hbel5
    obtain ⟨k, V, hk, rfl, rfl, arrN, arrV, hVP, hbel⟩ := hrel
    by_cases hlt : k < n1
    · rcases hr1.cells with hz | ⟨p1, o1, rfl, hp1, hc1⟩
      · have := unhide HN1; omega
      rcases hr2'.cells with hz | ⟨p2, o2, rfl, hp2, hc2⟩
      · have := unhide HN2; omega
      have hw1 := hc1 k (by have := unhide HN1; omega)
      have hw2 := hc2 k (by have := unhide HN2; omega)
      have hst1 := sat_tot' ns k (by have := unhide HN1; omega)
      have hst2 := sat_tot' vs k (by have := unhide HN2; omega)
      clear hc1 hc2
      obtain ⟨s1, hs1⟩ : ∃ s, s = sat ns k := ⟨_, rfl⟩
      obtain ⟨s2, hs2⟩ : ∃ s, s = sat vs k := ⟨_, rfl⟩
      rw [← hs1] at hw1 hst1
      rw [← hs2] at hw2 hst2
      have HE1 := hide hs1
      have HE2 := hide hs2
      clear hs1 hs2
      have hcell1 := (hbel.cell (p := ⟨p1, o1 + k, none⟩) hp1).trans hw1
      go_wp2_with fail
      refine (enc_any wr.heap.size (.slice none 0 0) [] s1 wr (Own.nil _ _) (by simp; omega) (Nat.le_refl _)).mono ?_
      rintro e w6 ⟨v6, rfl, hown6, hbel6⟩
      rw [List.nil_append] at hown6
      have hown6 : Own wr.heap.size w6 v6 (nmL ns k) := by unfold nmL; rw [← unhide HE1]; exact hown6
      have arrN6 := arrN.later hbel6
      have arrV6 := arrV.later hbel6
      have hb6 : Below w2.heap.size w2 w6 := hbel.trans (hbel6.mono hbel.size)
      obtain ⟨a6, d6, rfl, _⟩ := hown6.rd
      obtain ⟨u6, hu6⟩ := arrN6.rest k hlt
      have hf6 := arrN6.free k
      have arrN7 := arrN6.put hlt (nmL ns) (fun _ _ => rfl) (hown6.mono arrN.le)
      have arrV7 := arrV6.other w2.heap.size k (by omega) arrN.lt (.slice a6 (nmL ns k).length d6)
      have hb7 := hb6.setCell (p := ⟨w2.heap.size, k, none⟩) (Nat.le_refl _) (.slice a6 (nmL ns k).length d6)
      have hv7 := (hb7.cell (p := ⟨p2, o2 + k, none⟩) hp2).trans hw2
      clear arrN arrV arrN6 arrV6 hown6 hbel6 hb6 hbel
      rcases (show k % 3 = 0 ∨ k % 3 = 1 ∨ k % 3 = 2 from by omega) with hm | hm | hm
      · have t0 : ((k : Int) % 3 == 0) = true := beq_iff_eq.2 (by omega)
        clear hm
        go_wp2_with fail
        obtain ⟨w7, hw7⟩ : ∃ w7, w7 = w6.setCell ⟨w2.heap.size, k, none⟩ (.slice a6 (nmL ns k).length d6) := ⟨_, rfl⟩
        have hs7 : w6.heap.size = w7.heap.size := by rw [hw7, World.size_setCell]
        rw [← hw7] at arrN7 arrV7 hb7 hv7 ⊢
        clear hw7
        refine (enc_any w7.heap.size (.slice none 0 0) [] s2 w7 (Own.nil _ _) (by simp; omega) (Nat.le_refl _)).mono ?_
        rintro e w8 ⟨v8, rfl, hown8, hbel8⟩
        rw [List.nil_append] at hown8
        obtain ⟨X, hX⟩ : ∃ X, X = enc (sB s2) := ⟨_, rfl⟩
        rw [← hX] at hown8
        have hval : Val X ∧ X.length ≤ 12 * (sat vs k).size + 24 := by
          rw [← unhide HE2, hX]
          exact ⟨.inl ⟨_, sB_nonneg _, rfl⟩, by have := enc_len (sB s2); rw [sB_length] at this; omega⟩
        clear hX
        have arrN8 := arrN7.later hbel8
        have arrV8 := arrV7.later hbel8
        have hb8 := hb7.trans (hbel8.mono hb7.size)
        obtain ⟨a8, d8, rfl, _⟩ := hown8.rd
        obtain ⟨u8, hu8⟩ := arrV8.rest k hlt
        have hf8 := arrV8.free k
        have arrV9 := arrV8.put hlt (upd V k X) (fun i hi => upd_lt V k X i hi) (by rw [upd_at]; exact hown8.mono arrV7.le)
        have arrN9 := arrN8.other w3.heap.size k (by omega) arrV7.lt (.slice a8 X.length d8)
        have hb9 := hb8.setCell (p := ⟨w3.heap.size, k, none⟩) (by simp only; omega) (.slice a8 X.length d8)
        have hVP9 := hVP.put hval.1 hval.2
        clear arrN8 arrV8 hb8 hown8 hbel8 hVP hval arrN7 arrV7 hb7 hv7 hs7
        go_wp2
        go_roundg (n1 - (k + 1))
        case measure => omega
        case rel => exact ⟨k + 1, upd V k X, by omega, rfl, by go_num, arrN9, arrV9, hVP9, hb9⟩
      · have t0 : ((k : Int) % 3 == 0) = false := beq_eq_false_iff_ne.2 (by omega)
        have t1 : ((k : Int) % 3 == 1) = true := beq_iff_eq.2 (by omega)
        clear hm
        have hv7a : ((w6.setCell ⟨w2.heap.size, k, none⟩ (.slice a6 (nmL ns k).length d6)).alloc (.cells #[.int .u8 91] 5)).cell? ⟨p2, o2 + k, none⟩ = some (.string s2) := ((hb7.alloc hb7.size _).cell (p := ⟨p2, o2 + k, none⟩) hp2).trans hw2
        go_wp2_with fail
        obtain ⟨w7, hw7⟩ : ∃ w7, w7 = w6.setCell ⟨w2.heap.size, k, none⟩ (.slice a6 (nmL ns k).length d6) := ⟨_, rfl⟩
        have hs7 : w6.heap.size = w7.heap.size := by rw [hw7, World.size_setCell]
        rw [← hw7] at arrN7 arrV7 hb7 hv7 hv7a ⊢
        rw [hs7]
        clear hw7
        have hq1 := own_built1 w7 91
        have hq2 : Below w7.heap.size w7 (w7.alloc (.cells #[.int .u8 91] 5)) := (Below.refl _ _).alloc (Nat.le_refl _) _
        have hq3 := enc_len (sB s2)
        rw [sB_length] at hq3
        refine (enc_any w7.heap.size _ [91] s2 _ hq1 (by simp; omega) hq2.size).mono ?_
        rintro e w8 ⟨v8, rfl, hown8, hbel8⟩
        have hbel8 := hq2.trans hbel8
        have hsz8 := hbel8.size
        obtain ⟨E, hE⟩ : ∃ E, E = enc (sB s2) := ⟨_, rfl⟩
        rw [← hE] at hown8 hq3
        have HEE := hide hE
        clear hE hq1 hq2
        obtain ⟨X, hX⟩ : ∃ X, X = ((([91] ++ E) ++ [44]) ++ E) ++ [93] := ⟨_, rfl⟩
        have hval : Val X ∧ X.length ≤ 12 * (sat vs k).size + 24 := by
          rw [← unhide HE2, hX]
          refine ⟨.inr (.inl ⟨91, E ++ ([44] ++ E), 93, by simp, ?_, .inr rfl, .inr rfl⟩), by simp; omega⟩
          have hbE : Bal E := by rw [unhide HEE]; exact Bal.enc _ (sB_nonneg _)
          exact hbE.append ((Bal.one (c := 44) (by decide) (by decide) (by decide) (by decide) (by decide)).append hbE)
        have HX := hide hX
        clear hX
        have hb7' := hide hb7
        go_wp2_with (first
          | (at_builtin; refine wpList_append_lit _ rfl (.tmp 98) (.tmp 99) 22 rfl w7.heap.size Try.underlying22 Try.info5 _ ([91] ++ E) [44] 1 _ w7 rfl rfl rfl rfl hown8 hbel8 (by simp; omega) hsz8 ?_; intro v9 w9 hown9 hbel9 hsz9; have hv9 := ((hb7.trans (hbel9.mono hb7.size)).cell (p := ⟨p2, o2 + k, none⟩) hp2).trans hw2)
          | (go_at_call 11; refine (enc_any w7.heap.size _ (([91] ++ E) ++ [44]) s2 _ hown9 (by simp; omega) hsz9).mono ?_; rintro e w10 ⟨v10, rfl, hown10, hbel10⟩; rw [← unhide HEE] at hown10; have hbel10 := hbel9.trans hbel10; have hsz10 := hbel10.size)
          | (at_builtin; refine wpList_append_lit _ rfl (.tmp 109) (.tmp 110) 22 rfl w7.heap.size Try.underlying22 Try.info5 _ ((([91] ++ E) ++ [44]) ++ E) [93] 1 _ w7 rfl rfl rfl rfl hown10 hbel10 (by simp; omega) hsz10 ?_; intro v11 w11 hown11 hbel11 hsz11; rw [← unhide HX] at hown11; have arrN8 := arrN7.later hbel11; have arrV8 := arrV7.later hbel11; obtain ⟨a8, d8, rfl, _⟩ := hown11.rd; obtain ⟨u8, hu8⟩ := arrV8.rest k hlt; have hf8 := arrV8.free k))
        have hb8 := hb7.trans (hbel11.mono hb7.size)
        have arrV9 := arrV8.put hlt (upd V k X) (fun i hi => upd_lt V k X i hi) (by rw [upd_at]; exact hown11.mono arrV7.le)
        have arrN9 := arrN8.other w3.heap.size k (by omega) arrV7.lt (.slice a8 X.length d8)
        have hb9 := hb8.setCell (p := ⟨w3.heap.size, k, none⟩) (by simp only; omega) (.slice a8 X.length d8)
        have hVP9 := hVP.put hval.1 hval.2
        go_roundg (n1 - (k + 1))
        case measure => omega
        case rel => exact ⟨k + 1, upd V k X, by omega, rfl, by go_num, arrN9, arrV9, hVP9, hb9⟩
      · have t0 : ((k : Int) % 3 == 0) = false := beq_eq_false_iff_ne.2 (by omega)
        have t1 : ((k : Int) % 3 == 1) = false := beq_eq_false_iff_ne.2 (by omega)
        clear hm
        go_wp2_with fail
        obtain ⟨w7, hw7⟩ : ∃ w7, w7 = w6.setCell ⟨w2.heap.size, k, none⟩ (.slice a6 (nmL ns k).length d6) := ⟨_, rfl⟩
        have hs7 : w6.heap.size = w7.heap.size := by rw [hw7, World.size_setCell]
        rw [← hw7] at arrN7 arrV7 hb7 hv7 ⊢
        clear hw7
        refine (int_any s2.size w7 (by omega)).mono ?_
        rintro e w8 ⟨v8, ds, rfl, hown8, hds1, hds2, hds3, hbel8⟩
        obtain ⟨X, hX⟩ : ∃ X, X = 45 :: ds := ⟨_, rfl⟩
        rw [← hX] at hown8
        have hval : Val X ∧ X.length ≤ 12 * (sat vs k).size + 24 := by
          rw [hX]
          refine ⟨.inr (.inr ⟨by simp, fun c hc => ?_⟩), by simp; omega⟩
          rcases List.mem_cons.1 hc with h | h
          · subst h; omega
          · have := hds1 c h; omega
        clear hX hds1 hds2 hds3
        have arrN8 := arrN7.later hbel8
        have arrV8 := arrV7.later hbel8
        have hb8 := hb7.trans (hbel8.mono hb7.size)
        obtain ⟨a8, d8, rfl, _⟩ := hown8.rd
        obtain ⟨u8, hu8⟩ := arrV8.rest k hlt
        have hf8 := arrV8.free k
        have arrV9 := arrV8.put hlt (upd V k X) (fun i hi => upd_lt V k X i hi) (by rw [upd_at]; exact hown8.mono arrV7.le)
        have arrN9 := arrN8.other w3.heap.size k (by omega) arrV7.lt (.slice a8 X.length d8)
        have hb9 := hb8.setCell (p := ⟨w3.heap.size, k, none⟩) (by simp only; omega) (.slice a8 X.length d8)
        have hVP9 := hVP.put hval.1 hval.2
        clear arrN8 arrV8 hb8 hown8 hbel8 hVP hval arrN7 arrV7 hb7 hv7 hs7
        go_wp2
        go_roundg (n1 - (k + 1))
        case measure => omega
        case rel => exact ⟨k + 1, upd V k X, by omega, rfl, by go_num, arrN9, arrV9, hVP9, hb9⟩
    · have ek : k = n1 := by omega
      rw [ek] at arrN arrV hVP
      clear ek hk hr1 hr2'
      have hb0 : Below w.heap.size w wr := hB2'.trans (hbel.mono hB2'.size)
      clear hB2' hbel
      have hsk := szK_le ns vs V n1 hVP (by have := unhide HN1; omega) (by have := unhide HN2; omega)
      have hsk1 := tot_take_le' ns n1
      have hsk2 := tot_take_le' vs n1
      have hszK : szK (nmL ns) V n1 ≤ 1000000 := by omega
      have hlenO := objK_len (nmL ns) V n1
      have hwh := objK_whole (nmL ns) V n1 (fun i _ => nmL_str ns i) (fun i hi => (hVP i hi).1)
      have HVP := hide hVP
      clear hsk hsk1 hsk2 hVP
      obtain ⟨N, hN⟩ : ∃ N, N = nmL ns := ⟨_, rfl⟩
      have hNs : ∀ i, Str (N i) := by rw [hN]; exact nmL_str ns
      rw [← hN] at arrN hszK hlenO hwh
      have HNS := hide hNs
      clear hN hNs
      go_wp2_with fail
      refine (zzobj_any (some ⟨w2.heap.size, 0, none⟩) (some ⟨w3.heap.size, 0, none⟩) n1 n1 n1 N V wr arrN.sl arrV.sl (by omega) (by omega)).mono ?_
      rintro e w6 ⟨v6, rfl, hown6, hbel6⟩
      have arrN6 := arrN.later hbel6
      have arrV6 := arrV.later hbel6
      have hb6 := hb0.trans (hbel6.mono hb0.size)
      clear arrN arrV hbel6 hb0
      obtain ⟨O, hO⟩ : ∃ O, O = objK N V n1 ++ [125] := ⟨_, rfl⟩
      obtain ⟨l1, hl1⟩ : ∃ l1, l1 = (objK N V n1).length := ⟨_, rfl⟩
      have hOl : O.length = l1 + 1 := by rw [hO, hl1]; simp
      have hl1a : 1 ≤ l1 := by rw [hl1]; simp [objK]
      have hl1b : l1 ≤ 1000000 := by omega
      have hO0 : bat O 0 = 123 := by rw [hO]; rfl
      have hOl1 : bat O l1 = 125 := by rw [hO, hl1]; unfold bat; simp
      rw [← hO] at hown6 hwh
      have HW := hide hwh
      have HO := hide hO
      have HOL := hide hOl
      have HL1 := hide hl1
      have hex : ∃ b o c, v6 = .slice (some ⟨b, o, none⟩) (l1 + 1) c ∧ Rd w6 w6.heap.size (some ⟨b, o, none⟩) c O := by
        obtain ⟨a, c, h, hr⟩ := hown6.rd
        obtain ⟨b, o, rfl⟩ := hr.head (by omega)
        rw [hOl] at h
        exact ⟨b, o, c, h, hr⟩
      obtain ⟨bo, oo, cO, rfl, hrO⟩ := hex
      clear hwh hO hOl hl1 hown6 hlenO hszK
      have hcell : ∀ (wx : World), Rd wx wx.heap.size (some ⟨bo, oo, none⟩) cO O → ∀ i, i < l1 + 1 → wx.cell? ⟨bo, oo + i, none⟩ = some (.int .u8 (bat O i)) := by
        intro wx hx i hi
        have := unhide HOL
        rcases hx.cells with h0 | ⟨b', o', he, _, hc⟩
        · omega
        · cases he; exact hc i (by omega)
      have HCELL := hide hcell
      have k0 := hcell w6 hrO 0 (by omega)
      have k1 := hcell w6 hrO l1 (by omega)
      rw [hO0, Nat.add_zero] at k0
      rw [hOl1] at k1
      clear hcell hO0
      have HOL1 := hide hOl1
      clear hOl1
      go_wp2_with fail
      refine (clone_rd (some ⟨bo, oo, none⟩) (l1 + 1) cO O w6 hrO (unhide HOL) (by omega)).mono ?_
      rintro e w7 ⟨a7, c7, rfl, hr7, hbel7⟩
      have hrO := hrO.step hbel7
      have arrN7 := arrN6.later hbel7
      have arrV7 := arrV6.later hbel7
      have hb7 := hb6.trans (hbel7.mono hb6.size)
      clear arrN6 arrV6 hb6 hbel7 k0 k1
      go_wp2_with fail
      refine (zz_whole w7 a7 (l1 + 1) c7 (l1 + 1) [] O [] 0 (by simpa [wsL] using hr7) (by simpa [wsL] using unhide HOL) (by omega) (unhide HW) (unhide HOL) rfl).mono ?_
      rintro e w8 ⟨a8, c8, rfl, hr8, hbel8⟩
      have hrO := hrO.step hbel8
      have arrN8 := arrN7.later hbel8
      have arrV8 := arrV7.later hbel8
      have hb8 := hb7.trans (hbel8.mono hb7.size)
      clear arrN7 arrV7 hb7 hbel8 hr7
      go_wp2_with fail
      refine (eq_bel a8 (some ⟨bo, oo, none⟩) (l1 + 1) c8 cO _ _ O w8 hr8 hrO (unhide HOL)).mono ?_
      rintro e w9 ⟨rfl, hbel9⟩
      have hrO := hrO.step hbel9
      have arrN9 := arrN8.later hbel9
      have arrV9 := arrV8.later hbel9
      have hb9 := hb8.trans (hbel9.mono hb8.size)
      clear arrN8 arrV8 hb8 hbel9 hr8
      by_cases hn0 : n1 = 0
      · have hl2 : l1 = 1 := by rw [unhide HL1, hn0]; rfl
        subst hl2
        have t0 : ((n1 : Int) == 0) = true := beq_iff_eq.2 (by omega)
        go_wp2
        go_ret
        exact ⟨rfl, hb9⟩
      · have t0 : ((n1 : Int) == 0) = false := beq_eq_false_iff_ne.2 (by omega)
        go_wp2_with fail
        go_loopg [13, 14] n1 (fun g q i wr => ∃ j : Nat, j ≤ n1 ∧ g = n1 - j ∧ i = .int .i64 j ∧ q = .int .i64 ((posK N V j : Nat) : Int) ∧ Rd wr wr.heap.size (some ⟨bo, oo, none⟩) cO O ∧ Arr wr w2.heap.size w4.heap.size n1 n1 N ∧ Arr wr w3.heap.size w4.heap.size n1 n1 V ∧ Below w.heap.size w wr)
        case atStart => exact ⟨0, Nat.zero_le _, rfl, rfl, rfl, hrO, arrN9, arrV9, hb9⟩
        case round =>
          clear hrO arrN9 arrV9 hb9
          obtain ⟨j, hj, rfl, rfl, rfl, hrO, arrN, arrV, hb⟩ := hrel
          by_cases hjl : j < n1
          · obtain ⟨d, R, hdrop, hlast, hmid, hlen⟩ := objK_drop N V j n1 hjl
            rw [← unhide HO] at hdrop hlen
            rw [unhide HOL] at hlen
            have hdrop2 := drop_more O (posK N V j) (N j) _ 58 hdrop
            have hb58 := bat_drop O (posK N V j) (N j) 58 _ hdrop
            have hbd := bat_drop O (posK N V j + (N j).length + 1) (V j) d R hdrop2
            have hposS : posK N V (j + 1) = posK N V j + ((N j).length + 1 + (V j).length + 1) := rfl
            obtain ⟨X, hX⟩ : ∃ X, X = N j := ⟨_, rfl⟩
            obtain ⟨Y, hY⟩ : ∃ Y, Y = V j := ⟨_, rfl⟩
            obtain ⟨P, hP⟩ : ∃ P, P = posK N V j := ⟨_, rfl⟩
            obtain ⟨m, hm⟩ : ∃ m, m = X.length := ⟨_, rfl⟩
            obtain ⟨mv, hmv⟩ : ∃ mv, mv = Y.length := ⟨_, rfl⟩
            have hXs : Str X := by rw [hX]; exact unhide HNS j
            have hYs : Val Y := by rw [hY]; exact (unhide HVP j hjl).1
            rw [← hX, ← hY, ← hP] at hdrop hlen hposS
            rw [← hX, ← hP] at hb58
            rw [← hX, ← hY, ← hP] at hdrop2
            rw [← hX, ← hY, ← hP, ← hmv, ← hm] at hbd
            rw [← hm] at hdrop2 hb58
            rw [← hm, ← hmv] at hlen hposS
            rw [← hP]
            have HZ := hide (And.intro hX (And.intro hY (And.intro hm (And.intro hmv hposS))))
            have HD := hide (And.intro hdrop (And.intro hdrop2 (And.intro hb58 hbd)))
            have HL := hide (And.intro hlast hmid)
            have hlen' : P + m + 1 + mv + 1 ≤ l1 + 1 := by omega
            have HLN := hide hlen
            clear hX hY hP hm hmv hposS hdrop hdrop2 hb58 hbd hlast hmid hlen
            go_wp2_with fail
            refine (zz_str wr (some ⟨bo, oo, none⟩) (l1 + 1) cO P m O X _ hrO (unhide HOL) (by omega) (unhide HD).1 hXs (unhide HZ).2.2.1.symm).mono ?_
            rintro e w7 ⟨a7, c7, rfl, hr7, hbel7⟩
            have hrO := hrO.step hbel7
            have arrN := arrN.later hbel7
            have arrV := arrV.later hbel7
            have hb := hb.trans (hbel7.mono hb.size)
            obtain ⟨aN, cN, hcN, hrN⟩ := arrN.rd hjl
            rw [← (unhide HZ).1] at hcN hrN
            rw [← (unhide HZ).2.2.1] at hcN
            clear hbel7
            go_wp2_with fail
            refine (eq_bel a7 aN m c7 cN _ _ X w7 hr7 hrN (unhide HZ).2.2.1.symm).mono ?_
            rintro e w8 ⟨rfl, hbel8⟩
            have hrO := hrO.step hbel8
            have arrN := arrN.later hbel8
            have arrV := arrV.later hbel8
            have hb := hb.trans (hbel8.mono hb.size)
            have g1 := unhide HCELL w8 hrO (P + m) (by omega)
            rw [(unhide HD).2.2.1] at g1
            clear hbel8 hr7 hrN hcN
            go_wp2_with fail
            rw [show ((P : Int) + (m : Int) + 1) = ((P + m + 1 : Nat) : Int) by omega]
            have hdl : d = 44 ∨ d = 93 ∨ d = 125 := by
              by_cases e : j + 1 = n1
              · exact .inr (.inr ((unhide HL).1 e).1)
              · exact .inl ((unhide HL).2 (by omega))
            refine (zz_val w8 (some ⟨bo, oo, none⟩) (l1 + 1) cO (P + m + 1) mv O Y R d hrO (unhide HOL) (by omega) (unhide HD).2.1 hYs hdl (unhide HZ).2.2.2.1.symm).mono ?_
            rintro e w9 ⟨a9, c9, rfl, hr9, hbel9⟩
            rw [show (((P + m + 1 : Nat) : Int) + (mv : Int)) = (P : Int) + (m : Int) + 1 + (mv : Int) by omega, show ((P + m + 1 : Nat) : Int) = (P : Int) + (m : Int) + 1 by omega]
            have hrO := hrO.step hbel9
            have arrN := arrN.later hbel9
            have arrV := arrV.later hbel9
            have hb := hb.trans (hbel9.mono hb.size)
            obtain ⟨aV, cV, hcV, hrV⟩ := arrV.rd hjl
            rw [← (unhide HZ).2.1] at hcV hrV
            rw [← (unhide HZ).2.2.2.1] at hcV
            clear hbel9 g1 hdl
            go_wp2_with fail
            refine (eq_bel a9 aV mv c9 cV _ _ Y w9 hr9 hrV (unhide HZ).2.2.2.1.symm).mono ?_
            rintro e w10 ⟨rfl, hbel10⟩
            have hrO := hrO.step hbel10
            have arrN := arrN.later hbel10
            have arrV := arrV.later hbel10
            have hb := hb.trans (hbel10.mono hb.size)
            have g2 := unhide HCELL w10 hrO (P + m + 1 + mv) (by omega)
            rw [(unhide HD).2.2.2] at g2
            clear hbel10 hr9 hrV hcV
            by_cases hjn : j + 1 < n1
            · rw [(unhide HL).2 hjn] at g2
              have hjn' : (j : Int) < (n1 : Int) - 1 := by omega
              go_wp2
              go_roundg (n1 - (j + 1))
              case measure => omega
              case rel => exact ⟨j + 1, by omega, rfl, by go_num, by rw [(unhide HZ).2.2.2.2]; go_num, hrO, arrN, arrV, hb⟩
            · have hje : j + 1 = n1 := by omega
              rw [((unhide HL).1 hje).1] at g2
              have hR := ((unhide HL).1 hje).2
              have hln := unhide HLN
              rw [hR] at hln
              simp only [List.length_nil] at hln
              have hx1 : P + m + 1 + mv ≤ l1 := by omega
              have hx2 : l1 ≤ P + m + 1 + mv := by omega
              clear hR hln hje
              go_wp2
              go_roundg (n1 - (j + 1))
              case measure => omega
              case rel => exact ⟨j + 1, by omega, rfl, by go_num, by rw [(unhide HZ).2.2.2.2]; go_num, hrO, arrN, arrV, hb⟩
          · go_wp2
            go_ret
            exact ⟨rfl, hb⟩

end Go.Proofs.Qxb6002687a
