import Derived.Test.Qxb6600003aA1
import Derived.Lib.BytesEntry
namespace Go.Proofs.Qxb6600003a
set_option linter.unusedVariables false
set_option linter.unusedSimpArgs false
open Go.RowKit Go.Zq Go.Zp

theorem toU8_iff (c : Int) (h0 : 0 ≤ c) (h1 : c < 256) : (UInt8.ofNat c.toNat == (34 : Int).toNat.toUInt8) = decide (c = 34) := by
  have e : (34 : Int).toNat.toUInt8 = 34 := rfl
  rw [e]
  by_cases h : c = 34
  · subst h; rfl
  · rw [decide_eq_false h, beq_eq_false_iff_ne]
    intro hh
    apply h
    have h2 := congrArg UInt8.toNat hh
    simp at h2
    omega

theorem idx_first : ∀ (l : List Int) (t : Nat), (∀ c ∈ l, 0 ≤ c ∧ c < 256) → t < l.length → bat l t = 34 → (∀ i, i < t → bat l i ≠ 34) → Lib.indexByte (Lib.bytesOf l) (34 : Int).toNat.toUInt8 = (t : Int)
  | [], t, _, h, _, _ => by simp at h
  | c :: l, 0, hr, h, hq, _ => by
    have hc := hr c (by simp)
    have e : c = 34 := by simpa [bat] using hq
    show (if (UInt8.ofNat c.toNat == (34 : Int).toNat.toUInt8) = true then (0 : Int) else _) = 0
    rw [toU8_iff c hc.1 hc.2, decide_eq_true e, if_pos rfl]
  | c :: l, t + 1, hr, h, hq, hf => by
    have hc := hr c (by simp)
    have e : ¬ c = 34 := by simpa [bat] using hf 0 (by omega)
    have ih := idx_first l t (fun d hd => hr d (by simp [hd])) (by simpa using h) (by simpa [bat] using hq) (fun i hi => by simpa [bat] using hf (i + 1) (by omega))
    show (if (UInt8.ofNat c.toNat == (34 : Int).toNat.toUInt8) = true then (0 : Int) else if (Lib.indexByte (Lib.bytesOf l) (34 : Int).toNat.toUInt8 == -1) = true then -1 else Lib.indexByte (Lib.bytesOf l) (34 : Int).toNat.toUInt8 + 1) = _
    rw [toU8_iff c hc.1 hc.2, decide_eq_false e, if_neg (by simp), ih, if_neg (by simp)]
    omega

set_option maxHeartbeats 1000000 in
set_option maxRecDepth 100000 in
/-- bytes.IndexByte of the quote, at a slice that lies there. -/
theorem ib_any (w : World) (b o n cap t : Nat) (l : List Int) (hl : l.length = n) (hc : ∀ i, i < n → w.cell? ⟨b, o + i, none⟩ = some (.int .u8 (l.getD i 0))) (hr : ∀ c ∈ l, 0 ≤ c ∧ c < 256) (ht : t < n) (hq : bat l t = 34) (hf : ∀ i, i < t → bat l i ≠ 34) :
    Calls Try.prog 42 #[.slice (some ⟨b, o, none⟩) n cap, .int .u8 34] w fun e w' => e = .returned (.int .i64 (t : Int)) ∧ w = w' := by
  have hrun := Lib.run_indexByteSlice (P := Try.prog) w b o n cap l hl hc 34
  rw [idx_first l t hr (by omega) hq hf] at hrun
  have HR := hide hrun
  clear hrun hc hr hq hf hl
  go_enter Try.func42, Try.ntmps42
  go_wp2_with fail
  rw [run_callFunc_extern Try.func43 (by kernel_rfl) (by kernel_rfl) (by kernel_rfl) (e := Extern.BytealgIndexByte.indexByte) (by kernel_rfl), unhide HR]
  simp only [Result.andThen]
  rw [Oper.upon_value]
  go_wp2
  go_ret
  exact ⟨rfl, rfl⟩

/-- the first quote from s on -/
theorem first_quote (bs : List Int) (s q : Nat) (hs : s ≤ q) (hq : bat bs q = 34) : ∃ t, s ≤ t ∧ t ≤ q ∧ bat bs t = 34 ∧ ∀ i, s ≤ i → i < t → bat bs i ≠ 34 := by
  obtain ⟨d, rfl⟩ : ∃ d, q = s + d := ⟨q - s, by omega⟩
  induction d generalizing s with
  | zero => exact ⟨s, Nat.le_refl _, Nat.le_refl _, hq, fun i h1 h2 => by omega⟩
  | succ d ih =>
    by_cases h : bat bs s = 34
    · exact ⟨s, Nat.le_refl _, by omega, h, fun i h1 h2 => by omega⟩
    · obtain ⟨t, h1, h2, h3, h4⟩ := ih (s + 1) (by omega) (by rw [show s + 1 + d = s + (d + 1) by omega]; exact hq)
      refine ⟨t, by omega, by omega, h3, fun i h5 h6 => ?_⟩
      by_cases e : i = s
      · subst e; exact h
      · exact h4 i (by omega) h6

set_option maxHeartbeats 4000000 in
set_option maxRecDepth 100000 in
theorem close_any (w : World) (B b o n cap p q : Nat) (bs : List Int) (hr : Rd w B (some ⟨b, o, none⟩) cap bs) (hn : bs.length = n) (hl : n ≤ 1000000000000) (hrg : ∀ c ∈ bs, 0 ≤ c ∧ c < 256) (hQ : Cq bs p q) :
    Calls Try.prog 39 #[.slice (some ⟨b, o, none⟩) n cap, .int .i64 (p : Int)] w fun e w' => e = .returned (.int .i64 (q : Int)) ∧ w = w' := by
  have hc : ∀ i, i < n → w.cell? ⟨b, o + i, none⟩ = some (.int .u8 (bat bs i)) := by
    intro i hi
    rcases hr.cells with h0 | ⟨b', o', he, _, hc⟩
    · omega
    · cases he; exact hc i (by omega)
  have hcap : n ≤ cap := by have := hr.le; omega
  have hpq := hQ.lt
  have hqn : q < n := by have := hQ.len; omega
  have HC := hide hc
  have HN := hide hn
  have HQ := hide hQ
  have HR := hide hrg
  clear hc hn hQ hrg hr
  go_enter Try.func39, Try.ntmps39
  go_wp2
  go_loopg [5] (q - p) (fun g i wr => w = wr ∧ ∃ s : Nat, i = .int .i64 (s : Int) ∧ p < s ∧ s ≤ q ∧ g = q + 1 - s)
  case atStart => exact ⟨rfl, p + 1, by go_num, by omega, by omega, by omega⟩
  case round =>
    obtain ⟨rfl, s, rfl, hps, hsq, rfl⟩ := hrel
    obtain ⟨t, hst, htq, hbt, hfst⟩ := first_quote bs s q hsq (unhide HQ).quote
    obtain ⟨d, rfl⟩ : ∃ d, t = s + d := ⟨t - s, by omega⟩
    have hib := ib_any w b (o + s) (n - s) (cap - s) d (bs.drop s) (by have := unhide HN; simp; omega)
      (fun i hi => by
        have := unhide HC (s + i) (by omega)
        rw [← Nat.add_assoc] at this
        rw [this, ← bat_drop]; rfl)
      (fun c hc => unhide HR c (List.mem_of_mem_drop hc)) (by omega) (by rw [bat_drop]; exact hbt)
      (fun i hi => by rw [bat_drop]; exact hfst (s + i) (by omega) (by omega))
    have HIB := hide hib
    clear hib hfst
    have HBT := hide hbt
    clear hbt
    have td : decide ((d : Int) < 0) = false := by simp
    obtain ⟨kk, hkk⟩ : ∃ kk, s + d = p + 1 + kk := ⟨s + d - (p + 1), by omega⟩
    have HKK := hide hkk
    clear hkk
    have hkb : kk ≤ 1000000000000 := by have := unhide HKK; omega
    go_wp2_with (go_at_call 42; refine (unhide HIB).mono ?_; rintro e w' ⟨rfl, rfl⟩)
    go_loopg [7, 8] kk (fun g bk jj wr => w = wr ∧ ∃ c J : Nat, c ≤ kk ∧ g = kk - c ∧ bk = .int .i64 (c : Int) ∧ jj = .int .i64 (J : Int) ∧ p ≤ J ∧ J < n ∧ Hid (J + c = p + kk ∧ runB bs p kk = c + runB bs p (kk - c)))
    case atStart => exact ⟨rfl, 0, p + kk, Nat.zero_le _, rfl, rfl, by have := unhide HKK; go_num, by omega, by have := unhide HKK; omega, ⟨rfl, by simp⟩⟩
    case round =>
      obtain ⟨rfl, c, J, hck, rfl, rfl, rfl, hpJ, hJn, HX⟩ := hrel
      have hcell := unhide HC J hJn
      by_cases hJ : p < J
      · by_cases h92 : bat bs J = 92
        · have t1 : (bat bs J == 92) = true := beq_iff_eq.2 h92
          have HB := hide h92
          clear h92
          go_wp2
          obtain ⟨h1, h2⟩ := unhide HX
          have h92 := unhide HB
          go_roundg (kk - (c + 1))
          case measure => omega
          case rel =>
            refine ⟨rfl, c + 1, J - 1, by omega, rfl, by go_num, by go_num, by omega, by omega, ⟨by omega, ?_⟩⟩
            obtain ⟨e', he'⟩ : ∃ e', kk - c = e' + 1 := ⟨kk - c - 1, by omega⟩
            have e2 : runB bs p (e' + 1) = if bat bs (p + 1 + e') = 92 then runB bs p e' + 1 else 0 := rfl
            rw [show p + 1 + e' = J by omega, if_pos h92] at e2
            rw [h2, he', e2, show kk - (c + 1) = e' by omega]; omega
        · have t1 : (bat bs J == 92) = false := beq_eq_false_iff_ne.2 h92
          have hfin : runB bs p kk = c := by
            obtain ⟨h1, h2⟩ := unhide HX
            obtain ⟨e', he'⟩ : ∃ e', kk - c = e' + 1 := ⟨kk - c - 1, by omega⟩
            have e2 : runB bs p (e' + 1) = if bat bs (p + 1 + e') = 92 then runB bs p e' + 1 else 0 := rfl
            rw [show p + 1 + e' = J by omega, if_neg h92] at e2
            rw [h2, he', e2]; omega
          have HF := hide hfin
          clear hfin h92
          have hpar : (s + d = q ∧ c % 2 = 0) ∨ (s + d < q ∧ c % 2 = 1) := by
            have hK := unhide HKK
            have hF := unhide HF
            have hb := unhide HBT
            have hrn := escF_run bs p kk
            rw [hF] at hrn
            by_cases e : s + d = q
            · left
              have hfree := (unhide HQ).free
              rw [show q - (p + 1) = kk by omega] at hfree
              refine ⟨e, ?_⟩
              have : ¬ c % 2 = 1 := fun h => by rw [hrn.2 h] at hfree; cases hfree
              omega
            · right
              have hf := (unhide HQ).first (s + d) (by omega) (by omega) hb
              rw [show s + d - (p + 1) = kk by omega] at hf
              exact ⟨by omega, hrn.1 hf⟩
          rcases hpar with ⟨h1, h2⟩ | ⟨h1, h2⟩
          · have t2 : ((c : Int) % 2 == 0) = true := beq_iff_eq.2 (by omega)
            have HE := hide h1
            clear h1 h2
            go_wp2
            go_ret
            refine ⟨?_, rfl⟩
            have h1 := unhide HE
            show Ending.returned (Value.int .i64 ((s : Int) + (d : Int))) = _
            rw [show (s : Int) + (d : Int) = (q : Int) by omega]
          · have t2 : ((c : Int) % 2 == 0) = false := beq_eq_false_iff_ne.2 (by omega)
            clear h2
            go_wp2
            go_roundg (q + 1 - (s + d + 1))
            case measure => omega
            case rel => exact ⟨rfl, s + d + 1, by go_num, by omega, by omega, rfl⟩
      · have hfin : runB bs p kk = c := by
          obtain ⟨h1, h2⟩ := unhide HX
          have : kk - c = 0 := by omega
          rw [h2, this]; rfl
        have HF := hide hfin
        clear hfin
        have hpar : (s + d = q ∧ c % 2 = 0) ∨ (s + d < q ∧ c % 2 = 1) := by
          have hK := unhide HKK
          have hF := unhide HF
          have hb := unhide HBT
          have hrn := escF_run bs p kk
          rw [hF] at hrn
          by_cases e : s + d = q
          · left
            have hfree := (unhide HQ).free
            rw [show q - (p + 1) = kk by omega] at hfree
            refine ⟨e, ?_⟩
            have : ¬ c % 2 = 1 := fun h => by rw [hrn.2 h] at hfree; cases hfree
            omega
          · right
            have hf := (unhide HQ).first (s + d) (by omega) (by omega) hb
            rw [show s + d - (p + 1) = kk by omega] at hf
            exact ⟨by omega, hrn.1 hf⟩
        rcases hpar with ⟨h1, h2⟩ | ⟨h1, h2⟩
        · have t2 : ((c : Int) % 2 == 0) = true := beq_iff_eq.2 (by omega)
          have HE := hide h1
          clear h1 h2
          go_wp2
          go_ret
          refine ⟨?_, rfl⟩
          have h1 := unhide HE
          show Ending.returned (Value.int .i64 ((s : Int) + (d : Int))) = _
          rw [show (s : Int) + (d : Int) = (q : Int) by omega]
        · have t2 : ((c : Int) % 2 == 0) = false := beq_eq_false_iff_ne.2 (by omega)
          clear h2
          go_wp2
          go_roundg (q + 1 - (s + d + 1))
          case measure => omega
          case rel => exact ⟨rfl, s + d + 1, by go_num, by omega, by omega, rfl⟩

end Go.Proofs.Qxb6600003a
