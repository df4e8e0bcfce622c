import Derived.Test.Qxb6002687aR3
import Derived.Test.Qxb6002687aPlain3
namespace Go.Proofs.Qxb6002687a
set_option linter.unusedVariables false
set_option linter.unusedSimpArgs false
open Go.RowKit Go.Zq Go.Zp

set_option maxHeartbeats 2000000 in
theorem value_nest (w0 w : World) (r b o n cap p q m : Nat) (bs : List Int) (hS : Sr w0 r (.slice (some ⟨b, o, none⟩) n cap) p w) (hr : Rd w0 r (some ⟨b, o, none⟩) cap bs) (hn : bs.length = n)
    (hl : n ≤ 1000000000000) (hpq : p ≤ q) (hws : ∀ i, p ≤ i → i < q → isWs (bat bs i)) (hc : bat bs q = 123 ∨ bat bs q = 91) (hm : scan (bs.drop q) 0 0 = some m) :
    Calls Try.prog 28 #[.pointer (some ⟨r, 0, none⟩)] w fun e w' => e = .returned (.slice (some ⟨b, o + q, none⟩) m (cap - q)) ∧ Sr w0 r (.slice (some ⟨b, o, none⟩) n cap) (q + m) w' := by
  have hq : q < n := by have := scan_lt bs q m 0 0 hm; omega
  have hcap : n ≤ cap := by have := hr.le; omega
  have hN := next_any w0 w r b o n cap p q bs hS hr hn hl hpq hq hws (by omega) (by omega) (by omega)
  have HN := hide hn
  clear hn
  have HM := hide hm
  clear hm hws
  have HX := hide hN
  clear hN
  have b1 : (bat bs q == 34) = false := beq_eq_false_iff_ne.2 (by omega)
  have HC := hide hc
  rcases hc with hc | hc
  all_goals
    first
      | (have b2 : (bat bs q == 123) = true := by rw [hc]; rfl)
      | (have b2 : (bat bs q == 123) = false := by rw [hc]; rfl
         have b3 : (bat bs q == 91) = true := by rw [hc]; rfl)
    clear hc
    go_enter Try.func28, Try.ntmps28
    go_wp2_with (go_at_call 31; refine (unhide HX).mono ?_; rintro e w1 ⟨rfl, hS1⟩; have c1 := hS1.c1)
    go_loopg [5] m (fun g sd wr => ∃ j d : Nat, q ≤ j ∧ sd = .int .i64 d ∧ scan (bs.drop j) 0 d = some g ∧ j + g = q + m ∧ d ≤ j ∧ (0 < d ∨ bat bs j = 123 ∨ bat bs j = 91) ∧ Sr w0 r (.slice (some ⟨b, o, none⟩) n cap) j wr)
    case atStart => exact ⟨q, 0, Nat.le_refl _, rfl, unhide HM, rfl, Nat.zero_le _, .inr (unhide HC), hS1⟩
    case round =>
      clear hS1 c1 hS
      obtain ⟨j, d, hqj, rfl, hm, hjm, hdj, hd, hS⟩ := hrel
      have hj : j < n := by have := scan_lt bs j gk d 0 hm; have := unhide HN; omega
      have c0 := hS.c0
      have c1 := hS.c1
      have f1 := hS.f1
      have cd : wr.cell? ⟨b, o + j, none⟩ = some (.int .u8 (bat bs j)) := hS.cell hr (by have := unhide HN; omega)
      have HJ := hide hjm
      clear hjm
      by_cases k1 : bat bs j = 34
      · obtain ⟨k, m1, hk, hgm, hm1⟩ := scan_at_str bs j gk d hm k1
        have HK := hide hk
        have HG := hide (And.intro hgm hm1)
        clear hk hgm hm1 hm
        have t34 : (bat bs j == 34) = true := beq_iff_eq.2 (by omega)
        have hd0 : 0 < d := by omega
        clear k1 hd
        go_wp2
        go_quiet (fail)
        go_wp2_with (go_at_call 30; refine (skip_any w0 _ r b o n cap j k bs (hS.drewN _) hr (unhide HN) (unhide HK) hl hj).mono ?_; rintro e w2 ⟨rfl, hS2⟩)
        obtain ⟨hgm, hm1⟩ := unhide HG
        have hjm := unhide HJ
        go_roundg m1
        case measure => omega
        case rel => exact ⟨j + 1 + k, d, by omega, rfl, hm1, by omega, by omega, .inl hd0, hS2⟩
      · have hoth := scan_at_oth bs j gk d hm k1
        clear hm
        have t34 : (bat bs j == 34) = false := beq_eq_false_iff_ne.2 (by omega)
        rcases (show (bat bs j = 123 ∨ bat bs j = 91) ∨ (bat bs j = 125 ∨ bat bs j = 93) ∨ (bat bs j ≠ 123 ∧ bat bs j ≠ 91 ∧ bat bs j ≠ 125 ∧ bat bs j ≠ 93) from by omega) with k2 | k2 | k2
        · have e : dep (bat bs j) d = d + 1 := by unfold dep; rw [if_pos k2]
          rw [e] at hoth
          have HO := hide hoth
          clear e hoth k1
          rcases k2 with k2 | k2
          all_goals
            first
              | (have t123 : (bat bs j == 123) = true := by rw [k2]; rfl)
              | (have t123 : (bat bs j == 123) = false := by rw [k2]; rfl
                 have t91 : (bat bs j == 91) = true := by rw [k2]; rfl)
            clear k2
            have t0 : (((d : Int) + 1) == 0) = false := beq_eq_false_iff_ne.2 (by omega)
            go_wp2
            go_quiet (fail)
            go_wp2
            rcases unhide HO with ⟨h1, h2⟩ | ⟨h1, m1, h2, h3⟩
            · omega
            have hjm := unhide HJ
            go_roundg m1
            case measure => omega
            case rel => exact ⟨j + 1, d + 1, by omega, by go_num, h3, by omega, by omega, .inl (by omega), (hS.drewN _).put (j + 1) _ (by omega)⟩
        · have e : dep (bat bs j) d = d - 1 := by unfold dep; rw [if_neg (by omega), if_pos k2]
          rw [e] at hoth
          have hd0 : 0 < d := by omega
          have HO := hide hoth
          clear e hoth k1 hd
          have t123 : (bat bs j == 123) = false := beq_eq_false_iff_ne.2 (by omega)
          have t91 : (bat bs j == 91) = false := beq_eq_false_iff_ne.2 (by omega)
          rcases k2 with k2 | k2
          all_goals
            first
              | (have t125 : (bat bs j == 125) = true := by rw [k2]; rfl)
              | (have t125 : (bat bs j == 125) = false := by rw [k2]; rfl
                 have t93 : (bat bs j == 93) = true := by rw [k2]; rfl)
            clear k2
            by_cases hd1 : d = 1
            · subst hd1
              go_wp2
              go_quiet (fail)
              go_wp2
              have hc0 := (hS.drewN nq).put (j + 1) ((j : Int) + 1) (by omega)
              have d0 := hc0.c0
              have d1 := hc0.c1
              go_quiet (fail)
              go_wp2
              go_ret
              rcases unhide HO with ⟨h1, h2⟩ | ⟨h1, m1, h2, h3⟩
              · have hjm := unhide HJ
                have e : m = j + 1 - q := by omega
                have e2 : q + (j + 1 - q) = j + 1 := by omega
                rw [e, e2]
                exact ⟨rfl, hc0.drewN _⟩
              · omega
            · have t0 : (((d : Int) - 1) == 0) = false := beq_eq_false_iff_ne.2 (by omega)
              go_wp2
              go_quiet (fail)
              go_wp2
              rcases unhide HO with ⟨h1, h2⟩ | ⟨h1, m1, h2, h3⟩
              · omega
              have hjm := unhide HJ
              go_roundg m1
              case measure => omega
              case rel => exact ⟨j + 1, d - 1, by omega, by go_num, h3, by omega, by omega, .inl (by omega), (hS.drewN _).put (j + 1) _ (by omega)⟩
        · have e : dep (bat bs j) d = d := by unfold dep; rw [if_neg (by omega), if_neg (by omega)]
          rw [e] at hoth
          have hd0 : 0 < d := by omega
          have HO := hide hoth
          have t123 : (bat bs j == 123) = false := beq_eq_false_iff_ne.2 (by omega)
          have t91 : (bat bs j == 91) = false := beq_eq_false_iff_ne.2 (by omega)
          have t125 : (bat bs j == 125) = false := beq_eq_false_iff_ne.2 (by omega)
          have t93 : (bat bs j == 93) = false := beq_eq_false_iff_ne.2 (by omega)
          clear e hoth k1 hd k2
          have t0 : ((d : Int) == 0) = false := beq_eq_false_iff_ne.2 (by omega)
          go_wp2
          go_quiet (fail)
          go_wp2
          rcases unhide HO with ⟨h1, h2⟩ | ⟨h1, m1, h2, h3⟩
          · omega
          have hjm := unhide HJ
          go_roundg m1
          case measure => omega
          case rel => exact ⟨j + 1, d, by omega, rfl, h3, by omega, by omega, .inl (by omega), (hS.drewN _).put (j + 1) _ (by omega)⟩

end Go.Proofs.Qxb6002687a
