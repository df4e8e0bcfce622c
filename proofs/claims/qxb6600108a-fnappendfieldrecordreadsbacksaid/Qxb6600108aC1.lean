import Derived.Test.Qxb6600108aB6
namespace Go.Proofs.Qxb6600108a
set_option linter.unusedVariables false
set_option linter.unusedSimpArgs false
open Go.RowKit Go.Zq Go.Zp

def sat (ss : List ByteArray) (k : Nat) : ByteArray := ss.getD k ByteArray.empty

/-- The slice '.slice a ss.length cap' reads as the strings ss in w; its cells lie below block B. -/
structure RdS (w : World) (B : Nat) (a : Option Addr) (cap : Nat) (ss : List ByteArray) : Prop where
  le : ss.length ≤ cap
  max : cap ≤ maxLen
  nil : a = none → cap = 0
  size : ∀ i, (sat ss i).size ≤ maxLen
  cells : ss.length = 0 ∨ ∃ b off, a = some ⟨b, off, none⟩ ∧ b < B ∧ ∀ i, i < ss.length → w.cell? ⟨b, off + i, none⟩ = some (.string (sat ss i))

theorem RdS.keep {w w' : World} {B : Nat} {a : Option Addr} {cap : Nat} {ss : List ByteArray} (h : RdS w B a cap ss) (hb : Below B w w') : RdS w' B a cap ss := by
  refine ⟨h.le, h.max, h.nil, h.size, ?_⟩
  rcases h.cells with h0 | ⟨b, off, rfl, hlt, hc⟩
  · exact .inl h0
  · exact .inr ⟨b, off, rfl, hlt, fun i hi => (hb.cell (p := ⟨b, off + i, none⟩) hlt).trans (hc i hi)⟩

theorem RdS.mono {w : World} {B B' : Nat} {a : Option Addr} {cap : Nat} {ss : List ByteArray} (h : RdS w B a cap ss) (hB : B ≤ B') : RdS w B' a cap ss := by
  refine ⟨h.le, h.max, h.nil, h.size, ?_⟩
  rcases h.cells with h0 | ⟨b, off, rfl, hlt, hc⟩
  · exact .inl h0
  · exact .inr ⟨b, off, rfl, by omega, hc⟩
theorem RdS.step {w w' : World} {a : Option Addr} {cap : Nat} {ss : List ByteArray} (h : RdS w w.heap.size a cap ss) (hb : Below w.heap.size w w') : RdS w' w'.heap.size a cap ss := (h.keep hb).mono hb.size

theorem sat_get {ss : List ByteArray} {i : Nat} (h : i < ss.length) : (ss.map Value.string)[i]? = some (.string (sat ss i)) := by
  simp [sat, List.getD, h]

theorem Try.info9 : (Try.prog.info? 9).map (fun i => (i.zero, i.size, i.bytes)) = some (some (.string ⟨#[]⟩), 1, 16) := by kernel_rfl
theorem Try.size9 : (Try.prog.info? 9).map (·.size) = some 1 := by kernel_rfl

set_option maxHeartbeats 2000000 in
/-- The bound on the lengths: some Boolean; nothing is written. -/
theorem bytes24_any (a : Option Addr) (n cap B : Nat) (ss : List ByteArray) (w : World) (hr : RdS w B a cap ss) (hn : ss.length = n) :
    Calls Try.prog 24 #[.slice a n cap] w fun e w' => BoolRet e ∧ w = w' := by
  have hcap : n ≤ cap := by have := hr.le; omega
  have hmx : cap ≤ 9223372036854775807 := by have := hr.max; unfold maxLen at this; omega
  have HRD := hide hr
  have HN := hide hn
  clear hr hn
  go_enter Try.func24, Try.ntmps24
  go_wp2
  all_goals first | (go_ret; exact ⟨BoolRet.mk false, rfl⟩) | skip
  go_loopg [3, 4] n (fun g tv iv wr => w = wr ∧ ∃ i t : Nat, i ≤ n ∧ iv = .int .i64 (i : Int) ∧ tv = .int .i64 (t : Int) ∧ t ≤ 1048576 ∧ g = n - i)
  case atStart => exact ⟨rfl, 0, n, Nat.zero_le _, rfl, by go_num, by omega, rfl⟩
  case round =>
    obtain ⟨rfl, i, t, hi, rfl, rfl, ht, rfl⟩ := hrel
    by_cases hin : i < n
    · obtain ⟨b, o, rfl, hcell⟩ : ∃ b o, a = some ⟨b, o, none⟩ ∧ w.cell? ⟨b, o + i, none⟩ = some (.string (sat ss i)) := by
        have hn := unhide HN
        rcases (unhide HRD).cells with h0 | ⟨b', o', he, _, hc⟩
        · omega
        · exact ⟨b', o', he, hc i (by omega)⟩
      obtain ⟨x, hx⟩ : ∃ x, x = sat ss i := ⟨_, rfl⟩
      have hxs : x.size ≤ 9223372036854775807 := by have := (unhide HRD).size i; rw [← hx] at this; unfold maxLen at this; omega
      rw [← hx] at hcell
      clear hx
      by_cases h1 : x.size ≤ 1048576
      · by_cases h2 : t + x.size ≤ 1048576
        · go_wp2
          go_roundg (n - (i + 1))
          case measure => omega
          case rel => exact ⟨rfl, i + 1, t + x.size, by omega, by go_num, by go_num, h2, rfl⟩
        · go_wp2
          go_ret
          exact ⟨BoolRet.mk false, rfl⟩
      · go_wp2
        go_ret
        exact ⟨BoolRet.mk false, rfl⟩
    · obtain rfl : i = n := by omega
      go_wp2
      go_ret
      exact ⟨BoolRet.mk true, rfl⟩

end Go.Proofs.Qxb6600108a
