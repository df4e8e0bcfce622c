import Derived.Test.Qxb6002687aR2
namespace Go.Proofs.Qxb6002687a
set_option linter.unusedVariables false
set_option linter.unusedSimpArgs false
open Go.RowKit Go.Zq Go.Zp

def isWs (c : Int) : Prop := c = 32 ∨ c = 9 ∨ c = 10 ∨ c = 13

set_option maxHeartbeats 1000000 in
theorem next_any (w0 w : World) (r b o n cap p q : Nat) (bs : List Int) (hS : Sr w0 r (.slice (some ⟨b, o, none⟩) n cap) p w) (hr : Rd w0 r (some ⟨b, o, none⟩) cap bs) (hn : bs.length = n)
    (hl : n ≤ 1000000000000) (hpq : p ≤ q) (hq : q < n) (hws : ∀ i, p ≤ i → i < q → isWs (bat bs i)) (h0 : 0 ≤ bat bs q) (h1 : bat bs q < 256) (h2 : bat bs q ≠ 32 ∧ bat bs q ≠ 9 ∧ bat bs q ≠ 10 ∧ bat bs q ≠ 13) :
    Calls Try.prog 31 #[.pointer (some ⟨r, 0, none⟩)] w fun e w' => e = .returned (.int .u8 (bat bs q)) ∧ Sr w0 r (.slice (some ⟨b, o, none⟩) n cap) q w' := by
  have HN := hide hn
  clear hn
  have HW := hide hws
  clear hws
  have HQ := hide (ib_no (bat bs q) h0 h1 h2)
  clear h0 h1 h2
  go_enter Try.func31, Try.ntmps31
  go_wp2
  go_loopg [] (q - p) (fun g wr => ∃ j : Nat, p ≤ j ∧ j ≤ q ∧ g = q - j ∧ Sr w0 r (.slice (some ⟨b, o, none⟩) n cap) j wr)
  case atStart => exact ⟨p, Nat.le_refl _, hpq, rfl, hS⟩
  case round =>
    clear hS
    obtain ⟨j, hpj, hjq, rfl, hS⟩ := hrel
    have c0 := hS.c0
    have c1 := hS.c1
    have f1 := hS.f1
    have hjn : j < n := by omega
    have cd : wr.cell? ⟨b, o + j, none⟩ = some (.int .u8 (bat bs j)) := hS.cell hr (by have := unhide HN; omega)
    by_cases hlt : j < q
    · obtain ⟨i, hi, hcall⟩ := ib_yes (bat bs j) (unhide HW j hpj hlt)
      have HC := hide hcall
      clear hcall
      go_wp2
      go_quiet ((go_at_call 32; exact Calls.quiet_of_same (unhide HC _)))
      go_wp2
      go_roundg (q - (j + 1))
      case measure => omega
      case rel => exact ⟨j + 1, by omega, by omega, rfl, (hS.drewN _).put (j + 1) _ (by omega)⟩
    · have e : j = q := by omega
      subst e
      go_wp2
      go_quiet ((go_at_call 32; exact Calls.quiet_of_same (unhide HQ _)))
      go_wp2
      go_quiet (fail)
      go_wp2
      go_ret
      exact ⟨rfl, (hS.drewN _).drewN _⟩

end Go.Proofs.Qxb6002687a
