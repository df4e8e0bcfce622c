import Derived.Test.Qxb6600068aChecked
import Derived.Test.Qxb6600068aBase
import Derived.Deep.LoopGhost
import Derived.Lib.BytesEntry
namespace Go.Proofs.Qxb6600068a
set_option linter.unusedVariables false
set_option linter.unusedSimpArgs false
open Go.RowKit Go.Zq Go.Zp

theorem Try.info5 : (Try.prog.info? 5).map (fun i => (i.zero, i.size, i.bytes)) = some (some (.int .u8 0), 1, 1) := by kernel_rfl
theorem Try.size5 : (Try.prog.info? 5).map (·.size) = some 1 := by kernel_rfl

/-- r is where the string ends: the first free quote, or -1. -/
structure Ends (bs : List Int) (r : Int) : Prop where
  of_qt : ∀ q, Qt bs q → r = (q : Int)
  of_no : NoQ bs bs.length → r = -1

theorem qt_uniq {bs : List Int} {p q : Nat} (hp : Qt bs p) (hq : Qt bs q) : p = q := by
  rcases Nat.lt_trichotomy p q with h | h | h
  · have := hq.first p h hp.quote
    rw [hp.free] at this; cases this
  · exact h
  · have := hp.first q h hq.quote
    rw [hq.free] at this; cases this

theorem Ends.qt {bs : List Int} {q : Nat} (h : Qt bs q) : Ends bs (q : Int) := by
  refine ⟨fun p hp => by rw [qt_uniq h hp], fun hn => ?_⟩
  have := hn q h.len h.quote
  rw [h.free] at this; cases this
theorem Ends.no {bs : List Int} (h : NoQ bs bs.length) : Ends bs (-1) := by
  refine ⟨fun q hq => ?_, fun _ => rfl⟩
  have := h q hq.len hq.quote
  rw [hq.free] at this; cases this

theorem toU8_iff (c : Int) (h0 : 0 ≤ c) (h1 : c < 256) : (UInt8.ofNat c.toNat == (34 : Int).toNat.toUInt8) = decide (c = 34) := by
  have e : (34 : Int).toNat.toUInt8 = 34 := rfl
  rw [e]
  by_cases h : c = 34
  · subst h; rfl
  · rw [decide_eq_false h, beq_eq_false_iff_ne]
    intro hh
    apply h
    have h2 := congrArg UInt8.toNat hh
    simp at h2
    omega

theorem idx_first : ∀ (l : List Int) (t : Nat), (∀ c ∈ l, 0 ≤ c ∧ c < 256) → t < l.length → bat l t = 34 → (∀ i, i < t → bat l i ≠ 34) → Lib.indexByte (Lib.bytesOf l) (34 : Int).toNat.toUInt8 = (t : Int)
  | [], t, _, h, _, _ => by simp at h
  | c :: l, 0, hr, h, hq, _ => by
    have hc := hr c (by simp)
    have e : c = 34 := by simpa [bat] using hq
    show (if (UInt8.ofNat c.toNat == (34 : Int).toNat.toUInt8) = true then (0 : Int) else _) = 0
    rw [toU8_iff c hc.1 hc.2, decide_eq_true e, if_pos rfl]
  | c :: l, t + 1, hr, h, hq, hf => by
    have hc := hr c (by simp)
    have e : ¬ c = 34 := by simpa [bat] using hf 0 (by omega)
    have ih := idx_first l t (fun d hd => hr d (by simp [hd])) (by simpa using h) (by simpa [bat] using hq) (fun i hi => by simpa [bat] using hf (i + 1) (by omega))
    show (if (UInt8.ofNat c.toNat == (34 : Int).toNat.toUInt8) = true then (0 : Int) else if (Lib.indexByte (Lib.bytesOf l) (34 : Int).toNat.toUInt8 == -1) = true then -1 else Lib.indexByte (Lib.bytesOf l) (34 : Int).toNat.toUInt8 + 1) = _
    rw [toU8_iff c hc.1 hc.2, decide_eq_false e, if_neg (by simp), ih, if_neg (by simp)]
    omega

theorem idx_none : ∀ (l : List Int), (∀ c ∈ l, 0 ≤ c ∧ c < 256) → (∀ i, i < l.length → bat l i ≠ 34) → Lib.indexByte (Lib.bytesOf l) (34 : Int).toNat.toUInt8 = -1
  | [], _, _ => rfl
  | c :: l, hr, hf => by
    have hc := hr c (by simp)
    have e : ¬ c = 34 := by simpa [bat] using hf 0 (by simp)
    have ih := idx_none l (fun d hd => hr d (by simp [hd])) (fun i hi => by simpa [bat] using hf (i + 1) (by simpa using hi))
    show (if (UInt8.ofNat c.toNat == (34 : Int).toNat.toUInt8) = true then (0 : Int) else if (Lib.indexByte (Lib.bytesOf l) (34 : Int).toNat.toUInt8 == -1) = true then -1 else Lib.indexByte (Lib.bytesOf l) (34 : Int).toNat.toUInt8 + 1) = _
    rw [toU8_iff c hc.1 hc.2, decide_eq_false e, if_neg (by simp), ih, if_pos (by simp)]

set_option maxHeartbeats 1000000 in
set_option maxRecDepth 100000 in
/-- bytes.IndexByte of the quote, at a slice that lies there. -/
theorem ib_any (w : World) (b o n cap : Nat) (l : List Int) (r : Int) (hl : l.length = n) (hc : ∀ i, i < n → w.cell? ⟨b, o + i, none⟩ = some (.int .u8 (l.getD i 0))) (he : Lib.indexByte (Lib.bytesOf l) (34 : Int).toNat.toUInt8 = r) :
    Calls Try.prog 34 #[.slice (some ⟨b, o, none⟩) n cap, .int .u8 34] w fun e w' => e = .returned (.int .i64 r) ∧ w = w' := by
  have hrun := Lib.run_indexByteSlice (P := Try.prog) w b o n cap l hl hc 34
  rw [he] at hrun
  have HR := hide hrun
  clear hrun hc he hl
  go_enter Try.func34, Try.ntmps34
  go_wp2_with fail
  rw [run_callFunc_extern Try.func35 (by kernel_rfl) (by kernel_rfl) (by kernel_rfl) (e := Extern.BytealgIndexByte.indexByte) (by kernel_rfl), unhide HR]
  simp only [Result.andThen]
  rw [Oper.upon_value]
  go_wp2
  go_ret
  exact ⟨rfl, rfl⟩

set_option maxHeartbeats 1000000 in
set_option maxRecDepth 100000 in
theorem ib_nil (w : World) :
    Calls Try.prog 34 #[.slice none 0 0, .int .u8 34] w fun e w' => e = .returned (.int .i64 (-1)) ∧ w = w' := by
  have hrun := Lib.run_indexByteNil (P := Try.prog) w 0 0 34
  have HR := hide hrun
  clear hrun
  go_enter Try.func34, Try.ntmps34
  go_wp2_with fail
  rw [run_callFunc_extern Try.func35 (by kernel_rfl) (by kernel_rfl) (by kernel_rfl) (e := Extern.BytealgIndexByte.indexByte) (by kernel_rfl), unhide HR]
  simp only [Result.andThen]
  rw [Oper.upon_value]
  go_wp2
  go_ret
  exact ⟨rfl, rfl⟩

set_option maxHeartbeats 1000000 in
theorem str_nil (w : World) : Calls Try.prog 31 #[.slice none 0 0] w fun e w' => e = .returned (.int .i64 (-1)) ∧ w = w' := by
  go_enter Try.func31, Try.ntmps31
  go_wp2
  go_loopg [3] 0 (fun g i wr => w = wr ∧ i = .int .i64 0)
  case atStart => exact ⟨rfl, rfl⟩
  case round =>
    obtain ⟨rfl, rfl⟩ := hrel
    go_wp2_with (go_at_call 34; refine (ib_nil w).mono ?_; rintro e w' ⟨rfl, rfl⟩)
    go_ret
    exact ⟨rfl, rfl⟩

end Go.Proofs.Qxb6600068a
