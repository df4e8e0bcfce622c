import Derived.Test.Qxb6002687aL4
import Derived.Test.Qxb6002687aI1
import Derived.Test.Qxb6002687aI2
import Derived.Test.Qxb6002687aPlain5
import Derived.Test.Qxb6002687aAp
import Derived.Deep.RegionHeld3
import Derived.Deep.DrawnRows
namespace Go.Proofs.Qxb6002687a
set_option linter.unusedVariables false
set_option linter.unusedSimpArgs false
open Go.RowKit Go.Zq Go.Zp

/-- member i of the row at block g: key, name, value, held; and what they read as -/
structure Ms (w : World) (g n : Nat) (N V : Nat → List Int) : Prop where
  mem : ∀ i, i < n → ∃ a c a' c', w.cell? ⟨g, i * 4, none⟩ = some (.slice a (N i).length c) ∧ w.cell? ⟨g, i * 4 + 1, none⟩ = some (.slice a (N i).length c) ∧
    w.cell? ⟨g, i * 4 + 2, none⟩ = some (.slice a' (V i).length c') ∧ w.cell? ⟨g, i * 4 + 3, none⟩ = some (.bool false) ∧ Rd w w.heap.size a c (N i) ∧ Rd w w.heap.size a' c' (V i)
  lt : g < w.heap.size

theorem Ms.keep {w w' : World} {g n : Nat} {N V : Nat → List Int} (h : Ms w g n N V) (hb : Below w.heap.size w w') : Ms w' g n N V := by
  refine ⟨fun i hi => ?_, Nat.lt_of_lt_of_le h.lt hb.size⟩
  obtain ⟨a, c, a', c', h1, h2, h3, h4, h5, h6⟩ := h.mem i hi
  exact ⟨a, c, a', c', (hb.cell (p := ⟨g, i * 4, none⟩) h.lt).trans h1, (hb.cell (p := ⟨g, i * 4 + 1, none⟩) h.lt).trans h2, (hb.cell (p := ⟨g, i * 4 + 2, none⟩) h.lt).trans h3, (hb.cell (p := ⟨g, i * 4 + 3, none⟩) h.lt).trans h4, h5.step hb, h6.step hb⟩

theorem heap2 (w : World) (O X : Obj) : ((w.alloc O).alloc X).heap[w.heap.size + 1]? = some X := by
  have h := heap_alloc_new (w.alloc O) X
  rw [World.size_alloc] at h; exact h

attribute [local go_sem ↓] Go.wp_at_zero Go.wp_at_succ

set_option maxHeartbeats 1000000 in
theorem obj_any (g n : Nat) (N V : Nat → List Int) (w : World) (hM : Ms w g n N V) (hn : n ≤ 1024) (hsz : szK N V n ≤ 1000000000) :
    Calls Try.prog 29 #[.slice (some ⟨g, 0, none⟩) n n] w fun e w' => ∃ v', e = .returned v' ∧ Own w.heap.size w' v' (objK N V n ++ [125]) ∧ Below w.heap.size w w' := by
  have HM := hide hM
  clear hM
  go_enter Try.func29, Try.ntmps29
  go_wp2
  go_loopg [3, 11] n (fun g' s i wr => ∃ (k z : Nat), k ≤ n ∧ g' = n - k ∧ i = .int .i64 k ∧ s = .int .i64 z ∧ z = szK N V k ∧ Below w.heap.size w wr)
  case atStart => exact ⟨0, 2, Nat.zero_le _, rfl, rfl, rfl, rfl, Below.refl _ _⟩
  case round =>
    obtain ⟨k, z, hk, rfl, rfl, rfl, hz, hbel⟩ := hrel
    have hmono := szK_mono N V hk
    rw [← hz] at hmono
    have HZ := hide hz
    clear hz
    by_cases hlt : k < n
    · obtain ⟨a, c, a', c', c0, c1, c2, c3, h5, h6⟩ := ((unhide HM).keep hbel).mem k hlt
      have hmono2 := szK_mono N V (show k + 1 ≤ n by omega)
      have hz := unhide HZ
      have e : szK N V (k + 1) = z + ((N k).length + 2 + (V k).length) := by rw [hz]; rfl
      have HE := hide e
      rw [e] at hmono2
      clear e hz
      obtain ⟨ln, hln⟩ : ∃ ln, ln = (N k).length := ⟨_, rfl⟩
      obtain ⟨lv, hlv⟩ : ∃ lv, lv = (V k).length := ⟨_, rfl⟩
      rw [← hln, ← hlv] at hmono2 HE
      rw [← hln] at c0 c1
      rw [← hlv] at c2
      clear hln hlv h5 h6
      go_wp2
      go_roundg (n - (k + 1))
      case measure => omega
      case rel => exact ⟨k + 1, z + (ln + 2 + lv), by omega, rfl, by go_num, by go_num, (unhide HE).symm, hbel.alloc hbel.size _⟩
    · have ek : k = n := by omega
      have hzn : z ≤ 1000000000 := by omega
      have hM2 := (unhide HM).keep hbel
      have HM2 := hide hM2
      clear hM2 HZ hmono ek
      obtain ⟨wA, hwA⟩ : ∃ wA, wA = wr := ⟨_, rfl⟩
      subst hwA
      obtain ⟨i0, hi, hz0, hz1, hz2⟩ := info_parts Try.info5
      go_wp2_with (first
        | (at_make; refine wpList_make_own _ rfl _ _ 22 rfl wA.heap.size 5 i0 (.int .u8 0) 1 Try.underlying22 hi hz0 hz1 _ _ _ z rfl rfl rfl (by rw [hz2]; omega) (by unfold maxLen; omega) (Nat.le_refl _) ?_; intro w2 hown2 hg2; have hbel2 := (Below.refl wA.heap.size wA).grown hg2 (Nat.le_refl _) (by simp); have hsz2 := hbel2.size)
        | (at_builtin; refine wpList_append_lit _ rfl (.tmp 28) (.tmp 29) 22 rfl wA.heap.size Try.underlying22 Try.info5 _ [] [123] 1 _ wA rfl rfl rfl rfl hown2 hbel2 (by simp) hsz2 ?_; intro v3 w3 hown3 hbel3 hsz3))
      go_loopg [6, 33] n (fun g' x i wr => ∃ k : Nat, k ≤ n ∧ g' = n - k ∧ i = .int .i64 k ∧ Own wA.heap.size wr x (objK N V k) ∧ Below wA.heap.size wA wr)
      case atStart => exact ⟨0, Nat.zero_le _, rfl, rfl, hown3, hbel3⟩
      case round =>
        clear hown2 hg2 hbel2 hsz2 hown3 hbel3 hsz3
        obtain ⟨j, hj, rfl, rfl, hown, hbx⟩ := hrel
        have hszx := hbx.size
        have hlen := objK_len N V j
        have hmono := szK_mono N V hj
        by_cases hlt2 : j < n
        · obtain ⟨a, c, a', c', c0, c1, c2, c3, h5, h6⟩ := (unhide HM2).mem j hlt2
          have hgA := (unhide HM2).lt
          have c0 := (hbx.cell (p := ⟨g, j * 4, none⟩) hgA).trans c0
          have c1 := (hbx.cell (p := ⟨g, j * 4 + 1, none⟩) hgA).trans c1
          have c2 := (hbx.cell (p := ⟨g, j * 4 + 2, none⟩) hgA).trans c2
          have c3 := (hbx.cell (p := ⟨g, j * 4 + 3, none⟩) hgA).trans c3
          have hmono2 := szK_mono N V (show j + 1 ≤ n by omega)
          simp only [szK] at hmono2
          obtain ⟨nj, hnj⟩ : ∃ nj, nj = N j := ⟨_, rfl⟩
          obtain ⟨vj, hvj⟩ : ∃ vj, vj = V j := ⟨_, rfl⟩
          obtain ⟨cu, hcu⟩ : ∃ cu, cu = objK N V j := ⟨_, rfl⟩
          rw [← hcu] at hown hlen
          rw [← hnj] at c0 c1 h5 hmono2
          rw [← hvj] at c2 h6 hmono2
          have HE := hide (And.intro hnj (And.intro hvj hcu))
          clear hnj hvj hcu
          have hS := Ap.start hown hbx hszx (.cells #[.slice a nj.length c, .slice a nj.length c, .slice a' vj.length c', .bool false] 54)
          have HS := hide hS
          clear hS
          by_cases hj0 : 0 < j
          · go_wp2_with (first
              | (at_builtin; refine wpList_append_Ap rfl (.tmp 40) (.tmp 41) 22 rfl Try.underlying22 Try.info5 wA.heap.size wA wr.heap.size _ _ cu [44] _ 1 1 rfl rfl ((unhide HS).alloc _) (SrcB.block (heap2 wr _ _) rfl rfl) (by omega) ?_; intro v5 wS hAp))
            have d1 := hAp.at 1 rfl
            have d2 := hAp.at 2 rfl
            have hne : ∀ k, some k = v5.ownBlock → k < wS.heap.size := fun k e => hAp.own.lt k e.symm
            have HNE := hide hne
            clear hne
            go_region_held3 (fun w' => w'.cell? ⟨wr.heap.size, 1, none⟩ = some (.slice a nj.length c) ∧ w'.cell? ⟨wr.heap.size, 2, none⟩ = some (.slice a' vj.length c'))
              (first | go_keep | exact ⟨hAp1.at 1 rfl, hAp1.at 2 rfl⟩ | exact ⟨hAp2.at 1 rfl, hAp2.at 2 rfl⟩ | exact ⟨hAp3.at 1 rfl, hAp3.at 2 rfl⟩)
              (first
                | (refine step_append_ApRd (by rfl) (.tmp 43) (.tmp 45) 22 (by rfl) Try.underlying22 Try.info5 wA.heap.size wA wr.heap.size _ _ (cu ++ [44]) nj _ _ _ (by rfl) (by rfl) (by first | exact hAp.drew | exact hAp | exact (hAp.alloc _).drew | exact hAp.drew.alloc _ | exact hAp.alloc _) h5 rfl (by first | omega | (simp; omega)) ?_; intro v1 w1 hAp1 hg1)
                | (refine step_append_ApOne (by rfl) (.tmp 46) (.tmp 47) 22 (by rfl) Try.underlying22 Try.info5 wA.heap.size wA wr.heap.size _ _ ((cu ++ [44]) ++ nj) 58 _ (by rfl) (by rfl) (by first | exact hAp1.alloc _ | exact hAp1) (by first | exact heap_alloc_new _ _ | exact (hg1.block wS.heap.size (by simp) (fun e => absurd (unhide HNE _ e) (by omega))).trans (heap_alloc_new _ _)) (by simp; omega) ?_; intro v2 w2 hAp2 hg2)
                | (refine step_append_ApRd (by rfl) (.tmp 48) (.tmp 50) 22 (by rfl) Try.underlying22 Try.info5 wA.heap.size wA wr.heap.size _ _ (((cu ++ [44]) ++ nj) ++ [58]) vj _ _ _ (by rfl) (by rfl) hAp2 h6 rfl (by simp; omega) ?_; intro v3 w3 hAp3 hg3))
            all_goals
              go_wp2
              have hfin := hAp3.own
              have hfb := hAp3.below
              obtain ⟨e1, e2, e3⟩ := unhide HE
              rw [e1, e2, e3] at hfin
              go_roundg (n - (j + 1))
              case measure => omega
              case rel => exact ⟨j + 1, by omega, rfl, by go_num, by rw [objK_succ N V j hj0]; exact hfin, hfb⟩
          · go_wp2
            have hAp := unhide HS
            generalize wr.alloc (.cells #[.slice a nj.length c, .slice a nj.length c, .slice a' vj.length c', .bool false] 54) = wS at hAp ⊢
            have d1 := hAp.at 1 rfl
            have d2 := hAp.at 2 rfl
            have hne : ∀ k, some k = u6.ownBlock → k < wS.heap.size := fun k e => hAp.own.lt k e.symm
            have HNE := hide hne
            clear hne
            go_region_held3 (fun w' => w'.cell? ⟨wr.heap.size, 1, none⟩ = some (.slice a nj.length c) ∧ w'.cell? ⟨wr.heap.size, 2, none⟩ = some (.slice a' vj.length c'))
              (first | go_keep | exact ⟨hAp1.at 1 rfl, hAp1.at 2 rfl⟩ | exact ⟨hAp2.at 1 rfl, hAp2.at 2 rfl⟩ | exact ⟨hAp3.at 1 rfl, hAp3.at 2 rfl⟩)
              (first
                | (refine step_append_ApRd (by rfl) (.tmp 43) (.tmp 45) 22 (by rfl) Try.underlying22 Try.info5 wA.heap.size wA wr.heap.size _ _ (cu) nj _ _ _ (by rfl) (by rfl) (by first | exact hAp.drew | exact hAp | exact (hAp.alloc _).drew | exact hAp.drew.alloc _ | exact hAp.alloc _) h5 rfl (by first | omega | (simp; omega)) ?_; intro v1 w1 hAp1 hg1)
                | (refine step_append_ApOne (by rfl) (.tmp 46) (.tmp 47) 22 (by rfl) Try.underlying22 Try.info5 wA.heap.size wA wr.heap.size _ _ ((cu) ++ nj) 58 _ (by rfl) (by rfl) (by first | exact hAp1.alloc _ | exact hAp1) (by first | exact heap_alloc_new _ _ | exact (hg1.block wS.heap.size (by simp) (fun e => absurd (unhide HNE _ e) (by omega))).trans (heap_alloc_new _ _)) (by simp; omega) ?_; intro v2 w2 hAp2 hg2)
                | (refine step_append_ApRd (by rfl) (.tmp 48) (.tmp 50) 22 (by rfl) Try.underlying22 Try.info5 wA.heap.size wA wr.heap.size _ _ (((cu) ++ nj) ++ [58]) vj _ _ _ (by rfl) (by rfl) hAp2 h6 rfl (by simp; omega) ?_; intro v3 w3 hAp3 hg3))
            all_goals
              go_wp2
              have hfin := hAp3.own
              have hfb := hAp3.below
              obtain ⟨e1, e2, e3⟩ := unhide HE
              rw [e1, e2, e3] at hfin
              go_roundg (n - (j + 1))
              case measure => omega
              case rel =>
                have hj1 : j = 0 := by omega
                subst hj1
                exact ⟨0 + 1, by omega, rfl, by go_num, by rw [objK_one]; exact hfin, hfb⟩
        · have ej : j = n := by omega
          go_wp2_with (first
            | (at_builtin; refine wpList_append_lit _ rfl (.tmp 53) (.tmp 54) 22 rfl wA.heap.size Try.underlying22 Try.info5 _ (objK N V j) [125] 1 _ wA rfl rfl rfl rfl hown hbx (by omega) hszx ?_; intro v9 w9 hown9 hbel9 hsz9))
          go_ret
          subst ej
          exact ⟨_, rfl, hown9.mono hbel.size, hbel.trans (hbel9.mono hbel.size)⟩

end Go.Proofs.Qxb6002687a
