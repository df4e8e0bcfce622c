import Derived.Test.Qxb6002687aT3
import Derived.Test.Qxb6002687aPlain2
import Derived.Deep.LoopGhost
namespace Go.Proofs.Qxb6002687a
set_option linter.unusedVariables false
set_option linter.unusedSimpArgs false
open Go.RowKit Go.Zq Go.Zp

/-- The reader's block: its text, its place; below it the world is as it was. -/
structure Sr (w0 : World) (r : Nat) (d : Value) (p : Nat) (w : World) : Prop where
  below : Below r w0 w
  blk : w.heap[r]? = some (.cells #[d, .int .i64 p] 50 (0, 0))

theorem Sr.c0 {w0 w : World} {r p : Nat} {d : Value} (h : Sr w0 r d p w) : w.cell? ⟨r, 0, none⟩ = some d := by
  rw [cell_of_row w r 0 _ 50 (0, 0) h.blk]; rfl
theorem Sr.c1 {w0 w : World} {r p : Nat} {d : Value} (h : Sr w0 r d p w) : w.cell? ⟨r, 1, none⟩ = some (.int .i64 p) := by
  rw [cell_of_row w r 1 _ 50 (0, 0) h.blk]; rfl
theorem Sr.f1 {w0 w : World} {r p : Nat} {d : Value} (h : Sr w0 r d p w) : w.frozen? ⟨r, 1, none⟩ = false := by
  simp [World.frozen?, h.blk]
theorem Sr.set {w0 w : World} {r p : Nat} {d : Value} (h : Sr w0 r d p w) (q : Nat) : Sr w0 r d q (w.setCell ⟨r, 1, none⟩ (.int .i64 q)) := by
  refine ⟨h.below.setCell (Nat.le_refl _) _, ?_⟩
  rw [setCell_eq_setRow w r 1 _ 50 (0, 0) _ h.blk, setRow_heap w r _ _ 50 _ h.blk]
  rfl
theorem Sr.put {w0 w : World} {r p : Nat} {d : Value} (h : Sr w0 r d p w) (q : Nat) (i : Int) (hi : i = (q : Int)) : Sr w0 r d q (w.setCell ⟨r, 1, none⟩ (.int .i64 i)) := by subst hi; exact h.set q
theorem Sr.drewN {w0 w : World} {r p : Nat} {d : Value} (h : Sr w0 r d p w) (n : Nat) : Sr w0 r d p (w.drewN n) := ⟨below_drewN h.below n, h.blk⟩
theorem Sr.cell {w0 w : World} {r p : Nat} {d : Value} (h : Sr w0 r d p w) {b o cap : Nat} {bs : List Int} (hr : Rd w0 r (some ⟨b, o, none⟩) cap bs) {i : Nat} (hi : i < bs.length) :
    w.cell? ⟨b, o + i, none⟩ = some (.int .u8 (bat bs i)) := by
  rcases (hr.keep h.below).cells with h0 | ⟨b', o', he, hlt, hc⟩
  · omega
  · cases he; exact hc i hi

set_option maxHeartbeats 1000000 in
theorem skip_any (w0 w : World) (r b o n cap p m : Nat) (bs : List Int) (hS : Sr w0 r (.slice (some ⟨b, o, none⟩) n cap) p w) (hr : Rd w0 r (some ⟨b, o, none⟩) cap bs) (hn : bs.length = n)
    (hm : strS (bs.drop (p + 1)) false = some m) (hl : n ≤ 1000000000000) (hp : p < n) :
    Calls Try.prog 30 #[.pointer (some ⟨r, 0, none⟩)] w fun e w' => e = .returned (.tuple #[]) ∧ Sr w0 r (.slice (some ⟨b, o, none⟩) n cap) (p + 1 + m) w' := by
  have HN := hide hn
  clear hn
  have HM := hide hm
  clear hm
  have c1 := hS.c1
  have f1 := hS.f1
  go_enter Try.func30, Try.ntmps30
  go_wp2
  go_loopg [] (n - (p + 1)) (fun g wr => ∃ q m' : Nat, q ≤ n ∧ g = n - q ∧ strS (bs.drop q) false = some m' ∧ q + m' = p + 1 + m ∧ Sr w0 r (.slice (some ⟨b, o, none⟩) n cap) q wr)
  case atStart => exact ⟨p + 1, m, by omega, rfl, unhide HM, by omega, hS.put (p + 1) _ (by omega)⟩
  case round =>
    clear c1 f1 HM hS
    obtain ⟨q, m', hq, rfl, hm, he, hS⟩ := hrel
    have HE := hide he
    clear he
    obtain ⟨hlt, hcase⟩ := strS_at bs q m' hm
    clear hm
    have c0 := hS.c0
    have c1 := hS.c1
    have f1 := hS.f1
    have cd := hS.cell hr hlt
    have hlt' : q < n := by have := unhide HN; omega
    clear hlt
    rcases hcase with ⟨hc, h1⟩ | ⟨hc, m2, h1, h2⟩ | ⟨hc1, hc2, m2, h1, h2⟩
    · have H1 := hide h1
      clear h1
      have b1 : (bat bs q == 34) = true := beq_iff_eq.2 hc
      clear hc
      go_wp2
      go_quiet (fail)
      go_wp2
      go_end0
      have e : q + 1 = p + 1 + m := by have := unhide HE; have := unhide H1; omega
      exact ⟨rfl, e ▸ (hS.drewN _).put (q + 1) _ (by omega)⟩
    · have b1 : (bat bs q == 34) = false := by rw [hc]; rfl
      have b2 : (bat bs q == 92) = true := beq_iff_eq.2 hc
      have H1 := hide (And.intro h1 h2)
      clear hc h1 h2
      go_wp2
      go_quiet (fail)
      go_wp2
      go_quiet (fail)
      go_wp2
      obtain ⟨h1, h2⟩ := unhide H1
      have hE := unhide HE
      have hlt2 := strS_lt bs (q + 2) _ _ h2
      have hN := unhide HN
      go_roundg (n - (q + 2))
      case measure => omega
      case rel => 
        go_goals
        exact ⟨q + 2, m2, by omega, rfl, h2, by omega, ((hS.drewN _).put (q + 1) _ (by omega)).put (q + 2) _ (by omega)⟩
    · have b1 : (bat bs q == 34) = false := beq_eq_false_iff_ne.2 hc1
      have b2 : (bat bs q == 92) = false := beq_eq_false_iff_ne.2 hc2
      have H1 := hide (And.intro h1 h2)
      clear hc1 hc2 h1 h2
      go_wp2
      go_quiet (fail)
      go_wp2
      go_quiet (fail)
      go_wp2
      obtain ⟨h1, h2⟩ := unhide H1
      have hE := unhide HE
      have hlt2 := strS_lt bs (q + 1) _ _ h2
      have hN := unhide HN
      go_roundg (n - (q + 1))
      case measure => omega
      case rel => 
        go_goals
        exact ⟨q + 1, m2, by omega, rfl, h2, by omega, (hS.drewN _).put (q + 1) _ (by omega)⟩

end Go.Proofs.Qxb6002687a
