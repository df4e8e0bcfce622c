import Derived.Test.Qxb6002687aR4
namespace Go.Proofs.Qxb6002687a
set_option linter.unusedVariables false
set_option linter.unusedSimpArgs false
open Go.RowKit Go.Zq Go.Zp

set_option maxHeartbeats 2000000 in
theorem value_str (w0 w : World) (r b o n cap p q k : Nat) (bs : List Int) (hS : Sr w0 r (.slice (some ⟨b, o, none⟩) n cap) p w) (hr : Rd w0 r (some ⟨b, o, none⟩) cap bs) (hn : bs.length = n)
    (hl : n ≤ 1000000000000) (hpq : p ≤ q) (hq : q < n) (hws : ∀ i, p ≤ i → i < q → isWs (bat bs i)) (hc : bat bs q = 34) (hm : strS (bs.drop (q + 1)) false = some k) (hk : q + 1 + k ≤ n) :
    Calls Try.prog 28 #[.pointer (some ⟨r, 0, none⟩)] w fun e w' => e = .returned (.slice (some ⟨b, o + q, none⟩) (1 + k) (cap - q)) ∧ Sr w0 r (.slice (some ⟨b, o, none⟩) n cap) (q + 1 + k) w' := by
  have hcap : n ≤ cap := by have := hr.le; omega
  have hN := next_any w0 w r b o n cap p q bs hS hr hn hl hpq hq hws (by omega) (by omega) (by omega)
  have HN := hide hn
  have HM := hide hm
  have HX := hide hN
  have b1 : (bat bs q == 34) = true := beq_iff_eq.2 hc
  clear hn hm hws hN hc
  go_enter Try.func28, Try.ntmps28
  go_wp2_with (first
    | (go_at_call 31; refine (unhide HX).mono ?_; rintro e w1 ⟨rfl, hS1⟩; have c1 := hS1.c1)
    | (go_at_call 30; refine (skip_any w0 _ r b o n cap q k bs hS1 hr (unhide HN) (unhide HM) hl hq).mono ?_; rintro e w2 ⟨rfl, hS2⟩; have d0 := hS2.c0; have d1 := hS2.c1))
  go_quiet (fail)
  go_wp2
  go_ret
  have e1 : q + 1 + k - q = 1 + k := by omega
  refine ⟨?_, hS2.drewN _⟩
  show Ending.returned (Value.slice (some ⟨b, o + q, none⟩) (q + 1 + k - q) (cap - q)) = _
  rw [e1]

theorem id_yes (c : Int) (h : c = 44 ∨ c = 93 ∨ c = 125) :
    ∃ i : Int, 0 ≤ i ∧ ∀ w, Calls Try.prog 32 #[.string ⟨#[32, 9, 10, 13, 44, 93, 125]⟩, .int .u8 c] w fun e w' => e = .returned (.int .i64 i) ∧ w' = w := by
  refine ⟨Lib.indexByte [32, 9, 10, 13, 44, 93, 125] c.toNat.toUInt8, ?_, fun w => ib32 _ _ _⟩
  rcases h with rfl | rfl | rfl <;> decide

theorem id_no (c : Int) (h0 : 45 ≤ c) (h1 : c ≤ 57) (w : World) :
    Calls Try.prog 32 #[.string ⟨#[32, 9, 10, 13, 44, 93, 125]⟩, .int .u8 c] w fun e w' => e = .returned (.int .i64 (-1)) ∧ w' = w := by
  have n : ∀ d : UInt8, c ≠ (d.toNat : Int) → (d == c.toNat.toUInt8) = false := fun d => toU8_ne c (by omega) (by omega) d
  have e : Lib.indexByte [32, 9, 10, 13, 44, 93, 125] c.toNat.toUInt8 = -1 := by
    simp [Lib.indexByte, n 32 (by simp; omega), n 9 (by simp; omega), n 10 (by simp; omega), n 13 (by simp; omega), n 44 (by simp; omega), n 93 (by simp; omega), n 125 (by simp; omega)]
  have := ib32 ⟨#[32, 9, 10, 13, 44, 93, 125]⟩ c w
  rw [show (ByteArray.mk #[32, 9, 10, 13, 44, 93, 125]).data.toList = [32, 9, 10, 13, 44, 93, 125] from rfl, e] at this
  exact this

set_option maxHeartbeats 2000000 in
/-- A number: digits and signs up to a delimiter. -/
theorem value_num (w0 w : World) (r b o n cap p k : Nat) (bs : List Int) (hS : Sr w0 r (.slice (some ⟨b, o, none⟩) n cap) p w) (hr : Rd w0 r (some ⟨b, o, none⟩) cap bs) (hn : bs.length = n)
    (hl : n ≤ 1000000000000) (hk : p + k < n) (hk0 : 0 < k) (hnum : ∀ i, p ≤ i → i < p + k → 45 ≤ bat bs i ∧ bat bs i ≤ 57) (he : bat bs (p + k) = 44 ∨ bat bs (p + k) = 93 ∨ bat bs (p + k) = 125) :
    Calls Try.prog 28 #[.pointer (some ⟨r, 0, none⟩)] w fun e w' => e = .returned (.slice (some ⟨b, o + p, none⟩) k (cap - p)) ∧ Sr w0 r (.slice (some ⟨b, o, none⟩) n cap) (p + k) w' := by
  have hcap : n ≤ cap := by have := hr.le; omega
  have hp := hnum p (Nat.le_refl _) (by omega)
  have hN := next_any w0 w r b o n cap p p bs hS hr hn hl (Nat.le_refl _) (by omega) (by omega) (by omega) (by omega) (by omega)
  have HN := hide hn
  have HM := hide hnum
  have HX := hide hN
  have b1 : (bat bs p == 34) = false := beq_eq_false_iff_ne.2 (by omega)
  have b2 : (bat bs p == 123) = false := beq_eq_false_iff_ne.2 (by omega)
  have b3 : (bat bs p == 91) = false := beq_eq_false_iff_ne.2 (by omega)
  obtain ⟨iy, hiy, hyes⟩ := id_yes (bat bs (p + k)) he
  have HY := hide hyes
  clear hn hnum hN hp he hyes
  go_enter Try.func28, Try.ntmps28
  go_wp2_with (go_at_call 31; refine (unhide HX).mono ?_; rintro e w1 ⟨rfl, hS1⟩; have c1 := hS1.c1)
  go_loopg [] k (fun g wr => ∃ j : Nat, p ≤ j ∧ j + g = p + k ∧ Sr w0 r (.slice (some ⟨b, o, none⟩) n cap) j wr)
  case atStart => exact ⟨p, Nat.le_refl _, rfl, hS1⟩
  case round =>
    clear hS1 c1 hS
    obtain ⟨j, hpj, hjg, hS⟩ := hrel
    have c0 := hS.c0
    have c1 := hS.c1
    have f1 := hS.f1
    have hjn : j < n := by omega
    have hjn' : (j : Int) < (n : Int) := by omega
    have cd : wr.cell? ⟨b, o + j, none⟩ = some (.int .u8 (bat bs j)) := hS.cell hr (by have := unhide HN; omega)
    have HJ := hide hjg
    by_cases hlt : j < p + k
    · have hc := unhide HM j hpj hlt
      have HI := hide (id_no (bat bs j) hc.1 hc.2)
      clear hc hjg
      go_wp2
      go_quiet ((go_at_call 32; exact Calls.quiet_of_same (unhide HI _)))
      go_wp2
      have hjg := unhide HJ
      go_roundg (gk - 1)
      case measure => omega
      case rel => exact ⟨j + 1, by omega, by omega, (hS.drewN _).put (j + 1) _ (by omega)⟩
    · have e : j = p + k := by omega
      rw [← e] at HY
      have HE := hide e
      clear hjg e
      go_wp2
      go_quiet ((go_at_call 32; exact Calls.quiet_of_same (unhide HY _)))
      go_wp2
      go_quiet (fail)
      go_wp2
      go_ret
      have e := unhide HE
      rw [← e]
      refine ⟨?_, (hS.drewN _).drewN _⟩
      show Ending.returned (Value.slice (some ⟨b, o + p, none⟩) (j - p) (cap - p)) = _
      rw [show j - p = k by omega]

end Go.Proofs.Qxb6002687a
