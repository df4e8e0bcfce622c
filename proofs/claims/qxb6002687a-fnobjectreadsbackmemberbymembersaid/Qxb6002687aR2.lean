import Derived.Test.Qxb6002687aR1
import Derived.Lib.Bytealg
namespace Go.Proofs.Qxb6002687a
set_option linter.unusedVariables false
set_option linter.unusedSimpArgs false
open Go.RowKit Go.Zq Go.Zp

set_option maxHeartbeats 1000000 in
set_option maxRecDepth 100000 in
theorem ib33 (s : ByteArray) (c : Int) (w : World) :
    Calls Try.prog 33 #[.string s, .int .u8 c] w fun e w' => e = .returned (.int .i64 (Lib.indexByte s.data.toList c.toNat.toUInt8)) ∧ w' = w := by
  go_enter Try.func33, Try.ntmps33
  go_wp2
  rw [run_callFunc_extern Try.func34 (by kernel_rfl) (by kernel_rfl) (by kernel_rfl) (e := Extern.BytealgIndexByte.indexByte) (by kernel_rfl), Lib.run_indexByteString]
  simp only [Result.andThen]
  rw [Oper.upon_value]
  go_wp2
  go_ret
  exact ⟨rfl, rfl⟩

set_option maxHeartbeats 1000000 in
theorem ib32 (s : ByteArray) (c : Int) (w : World) :
    Calls Try.prog 32 #[.string s, .int .u8 c] w fun e w' => e = .returned (.int .i64 (Lib.indexByte s.data.toList c.toNat.toUInt8)) ∧ w' = w := by
  go_enter Try.func32, Try.ntmps32
  go_wp2_with (go_at_call 33; refine (ib33 _ _ _).mono ?_; rintro e w' ⟨rfl, rfl⟩)
  go_ret
  exact ⟨rfl, rfl⟩

/-- white space is found -/
theorem ib_yes (c : Int) (h : c = 32 ∨ c = 9 ∨ c = 10 ∨ c = 13) :
    ∃ i : Int, 0 ≤ i ∧ ∀ w, Calls Try.prog 32 #[.string ⟨#[32, 9, 10, 13]⟩, .int .u8 c] w fun e w' => e = .returned (.int .i64 i) ∧ w' = w := by
  refine ⟨Lib.indexByte [32, 9, 10, 13] c.toNat.toUInt8, ?_, fun w => ib32 _ _ _⟩
  rcases h with rfl | rfl | rfl | rfl <;> decide

theorem toU8_ne (c : Int) (h0 : 0 ≤ c) (h1 : c < 256) (d : UInt8) (h : c ≠ (d.toNat : Int)) : (d == c.toNat.toUInt8) = false := by
  rw [beq_eq_false_iff_ne]
  intro e
  apply h
  rw [e]
  have : c.toNat.toUInt8.toNat = c.toNat % 256 := by simp
  rw [this]
  omega

theorem ib_no (c : Int) (h0 : 0 ≤ c) (h1 : c < 256) (h : c ≠ 32 ∧ c ≠ 9 ∧ c ≠ 10 ∧ c ≠ 13) (w : World) :
    Calls Try.prog 32 #[.string ⟨#[32, 9, 10, 13]⟩, .int .u8 c] w fun e w' => e = .returned (.int .i64 (-1)) ∧ w' = w := by
  have e : Lib.indexByte [32, 9, 10, 13] c.toNat.toUInt8 = -1 := by
    simp [Lib.indexByte, toU8_ne c h0 h1 32 h.1, toU8_ne c h0 h1 9 h.2.1, toU8_ne c h0 h1 10 h.2.2.1, toU8_ne c h0 h1 13 h.2.2.2]
  have := ib32 ⟨#[32, 9, 10, 13]⟩ c w
  rw [show (ByteArray.mk #[32, 9, 10, 13]).data.toList = [32, 9, 10, 13] from rfl, e] at this
  exact this

end Go.Proofs.Qxb6002687a
