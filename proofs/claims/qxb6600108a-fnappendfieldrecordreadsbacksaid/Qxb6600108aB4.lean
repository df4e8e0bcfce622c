import Derived.Test.Qxb6600108aB3
namespace Go.Proofs.Qxb6600108a
set_option linter.unusedVariables false
set_option linter.unusedSimpArgs false
open Go.RowKit Go.Zq Go.Zp

set_option maxHeartbeats 400000 in
theorem spc_any (c : Int) (w : World) : Calls Try.prog 23 #[.int .u8 c] w fun e w' => e = .returned (.bool (spc c)) ∧ w = w' := by
  have key : ∀ b1 b2 b3 b4 : Bool, (c == 44) = b1 → (c == 34) = b2 → (c == 13) = b3 → (c == 10) = b4 → Calls Try.prog 23 #[.int .u8 c] w fun e w' => e = .returned (.bool (b1 || b2 || b3 || b4)) ∧ w = w' := by
    intro b1 b2 b3 b4 t1 t2 t3 t4
    cases b1 <;> cases b2 <;> cases b3 <;> cases b4 <;>
      (go_enter Try.func23, Try.ntmps23
       go_wp2
       go_ret
       exact ⟨rfl, rfl⟩)
  exact key _ _ _ _ rfl rfl rfl rfl

set_option maxHeartbeats 2000000 in
theorem same_any (a : Option Addr) (n cap : Nat) (s : ByteArray) (w : World) (hr : Rd w w.heap.size a cap (sb s)) (hn : s.size = n) (hl : n ≤ 1000000000) :
    Calls Try.prog 22 #[.slice a n cap, .string s] w fun e w' => e = .returned (.bool true) ∧ Below w.heap.size w w' := by
  have hsl := sb_length s
  have hcap : n ≤ cap := by have := hr.le; omega
  have HRD := hide hr
  have HSL := hide hsl
  clear hr hsl
  have hsz : (s.size : Int) = (n : Int) := by omega
  have HN := hide hn
  clear hn
  go_enter Try.func22, Try.ntmps22
  go_wp2
  go_loopg [5] n (fun g iv wr => ∃ i : Nat, i ≤ n ∧ iv = .int .i64 (i : Int) ∧ g = n - i ∧ Below w.heap.size w wr)
  case atStart => exact ⟨0, Nat.zero_le _, rfl, rfl, Below.refl _ _⟩
  case round =>
    obtain ⟨i, hi, rfl, rfl, hbel⟩ := hrel
    by_cases hin : i < n
    · have hnn := unhide HN
      have his : i < s.size := by omega
      obtain ⟨x, hxe⟩ : ∃ x : UInt8, s[i]'his = x := ⟨_, rfl⟩
      have hbx : bat (sb s) i = (x.toNat : Int) := by rw [sb_at s i his, hxe]
      obtain ⟨b, o, rfl, hcell⟩ : ∃ b o, a = some ⟨b, o, none⟩ ∧ wr.cell? ⟨b, o + i, none⟩ = some (.int .u8 (x.toNat : Int)) := by
        have hr := (unhide HRD).keep hbel
        have hl2 := unhide HSL
        rcases hr.cells with h0 | ⟨b', o', he, _, hc⟩
        · omega
        · exact ⟨b', o', he, by rw [hc i (by omega), hbx]⟩
      have c1 : (i : Int) < (s.size : Int) := by omega
      have hix : ∀ W, (Instr.index 9 (.string s) (.int .i64 (i : Int))).run Try.prog W = .ok (.int .u8 x.toNat) W := fun W => by
        rw [run_index_string (P := Try.prog) W 9 s .i64 (i : Int) Try.underlying9, dif_pos ⟨by omega, c1⟩, ← hxe]
        rfl
      clear hbx hnn c1 hxe
      go_wp2
      go_quiet (fail)
      go_wp2
      go_roundg (n - (i + 1))
      case measure => omega
      case rel => exact ⟨i + 1, by omega, by go_num, rfl, Go.Zq.Below.drewN hbel _⟩
    · obtain rfl : i = n := by omega
      go_wp2
      go_ret
      exact ⟨rfl, hbel⟩

end Go.Proofs.Qxb6600108a
