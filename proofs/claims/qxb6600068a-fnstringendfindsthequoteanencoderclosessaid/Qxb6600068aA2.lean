import Derived.Test.Qxb6600068aA1
namespace Go.Proofs.Qxb6600068a
set_option linter.unusedVariables false
set_option linter.unusedSimpArgs false
open Go.RowKit Go.Zq Go.Zp

theorem run_back (bs : List Int) (T K : Nat) (h1 : K ≤ T) (h : run bs T = (T - K) + run bs K) (h92 : K = 0 ∨ bat bs (K - 1) ≠ 92) : run bs T = T - K := by
  have : run bs K = 0 := by
    rcases h92 with rfl | h92
    · rfl
    · cases K with
      | zero => rfl
      | succ k => rw [run_succ, if_neg (by simpa using h92)]
  omega

/-- at a quote: it is free, or it is escaped -/
theorem par (bs : List Int) (T K : Nat) (hl : T < bs.length) (hq : bat bs T = 34) (hno : NoQ bs T) (hrun : run bs T = T - K) : (Qt bs T ∧ (T - K) % 2 = 0) ∨ (NoQ bs (T + 1) ∧ (T - K) % 2 = 1) := by
  have h := esc_run bs T
  rw [hrun] at h
  cases he : esc bs T
  · left
    refine ⟨⟨hl, hq, he, hno⟩, ?_⟩
    have : ¬ (T - K) % 2 = 1 := fun h2 => by rw [h.2 h2] at he; cases he
    omega
  · right
    refine ⟨fun i hi h2 => ?_, h.1 he⟩
    by_cases e : i = T
    · subst e; exact he
    · exact hno i (by omega) h2

set_option maxHeartbeats 4000000 in
set_option maxRecDepth 100000 in
theorem str_some (w : World) (B b o n cap : Nat) (r : Int) (bs : List Int) (hr : Rd w B (some ⟨b, o, none⟩) cap bs) (hn : bs.length = n) (hl : n ≤ 1000000000000) (hrg : ∀ c ∈ bs, 0 ≤ c ∧ c < 256) (hE : Ends bs r) :
    Calls Try.prog 31 #[.slice (some ⟨b, o, none⟩) n cap] w fun e w' => e = .returned (.int .i64 r) ∧ w = w' := by
  have hc : ∀ i, i < n → w.cell? ⟨b, o + i, none⟩ = some (.int .u8 (bat bs i)) := by
    intro i hi
    rcases hr.cells with h0 | ⟨b', o', he, _, hc⟩
    · omega
    · cases he; exact hc i (by omega)
  have hcap : n ≤ cap := by have := hr.le; omega
  have HC := hide hc
  have HN := hide hn
  have HE := hide hE
  have HR := hide hrg
  clear hc hn hE hrg hr
  go_enter Try.func31, Try.ntmps31
  go_wp2
  go_loopg [3] n (fun g i wr => w = wr ∧ ∃ s : Nat, i = .int .i64 (s : Int) ∧ s ≤ n ∧ g = n - s ∧ Hid (NoQ bs s))
  case atStart => exact ⟨rfl, 0, by go_num, by omega, by omega, fun i hi => by omega⟩
  case round =>
    obtain ⟨rfl, s, rfl, hsn, rfl, HS⟩ := hrel
    rcases next_quote bs s (by have := unhide HN; omega) with ⟨d, hd1, hd2, hd3⟩ | hnone
    · have hsd : s + d < n := by have := unhide HN; omega
      have hib := ib_any w b (o + s) (n - s) (cap - s) (bs.drop s) (d : Int) (by have := unhide HN; simp; omega)
        (fun i hi => by
          have := unhide HC (s + i) (by omega)
          rw [← Nat.add_assoc] at this
          rw [this, ← bat_drop]; rfl)
        (idx_first _ d (fun c hc => unhide HR c (List.mem_of_mem_drop hc)) (by simp; omega) (by rw [bat_drop]; exact hd2)
          (fun i hi => by rw [bat_drop]; exact hd3 i hi))
      have HIB := hide hib
      have HD := hide (And.intro hd2 hd3)
      clear hib hd1 hd2 hd3
      have td : decide ((d : Int) < 0) = false := by simp
      have hcs : ¬ cap = s := by omega
      go_wp2_with (go_at_call 34; refine (unhide HIB).mono ?_; rintro e w' ⟨rfl, rfl⟩)
      have hno : NoQ bs (s + d) := fun i hi hq => by
        rcases Nat.lt_or_ge i s with h | h
        · exact unhide HS i h hq
        · have := (unhide HD).2 (i - s) (by omega)
          rw [show s + (i - s) = i by omega] at this
          exact absurd hq this
      have HNO := hide hno
      clear hno
      go_loopg [5] (s + d) (fun g kv wr => w = wr ∧ ∃ K : Nat, g = K ∧ kv = .int .i64 (K : Int) ∧ K ≤ s + d ∧ Hid (run bs (s + d) = (s + d - K) + run bs K))
      case atStart => exact ⟨rfl, s + d, rfl, by go_num, Nat.le_refl _, by unfold Hid; omega⟩
      case round =>
        obtain ⟨rfl, K, rfl, rfl, hK, HX⟩ := hrel
        rcases Nat.eq_zero_or_pos gk with h0 | h0
        · subst h0
          have hX := run_back bs (s + d) 0 hK (unhide HX) (.inl rfl)
          rcases par bs (s + d) 0 (by have := unhide HN; omega) (unhide HD).1 (unhide HNO) hX with ⟨h1, h2⟩ | ⟨h1, h2⟩
          · have t2 : (((s : Int) + (d : Int)) % 2 == 0) = true := beq_iff_eq.2 (by omega)
            have e := (unhide HE).of_qt _ h1
            have HEE := hide e
            clear e h1 h2 hX
            go_wp2
            go_ret
            refine ⟨?_, rfl⟩
            show Ending.returned (Value.int .i64 ((s : Int) + (d : Int))) = _
            rw [unhide HEE, Int.natCast_add]
          · have t2 : (((s : Int) + (d : Int)) % 2 == 0) = false := beq_eq_false_iff_ne.2 (by omega)
            have HX1 := hide h1
            clear h1 h2 hX
            go_wp2
            go_roundg (n - (s + d + 1))
            case measure => omega
            case rel => exact ⟨rfl, s + d + 1, by go_num, by omega, rfl, unhide HX1⟩
        · obtain ⟨k, rfl⟩ : ∃ k, gk = k + 1 := ⟨gk - 1, by omega⟩
          have hcell := unhide HC k (by omega)
          have ei : ((k + 1 : Nat) : Int) - 1 = (k : Int) := by omega
          by_cases h92 : bat bs k = 92
          · have t1 : (bat bs k == 92) = true := beq_iff_eq.2 h92
            have HB := hide h92
            clear h92
            go_wp2
            go_roundg k
            case measure => omega
            case rel =>
              refine ⟨rfl, k, rfl, by go_num, by omega, ?_⟩
              have h2 := unhide HX
              have h92 := unhide HB
              unfold Hid
              rw [run_succ, if_pos h92] at h2
              omega
          · have t1 : (bat bs k == 92) = false := beq_eq_false_iff_ne.2 h92
            have hX := run_back bs (s + d) (k + 1) hK (unhide HX) (.inr h92)
            clear h92
            rcases par bs (s + d) (k + 1) (by have := unhide HN; omega) (unhide HD).1 (unhide HNO) hX with ⟨h1, h2⟩ | ⟨h1, h2⟩
            · have t2 : (((s : Int) + (d : Int) - ((k + 1 : Nat) : Int)) % 2 == 0) = true := beq_iff_eq.2 (by omega)
              have e := (unhide HE).of_qt _ h1
              have HEE := hide e
              clear e h1 h2 hX
              go_wp2
              go_ret
              refine ⟨?_, rfl⟩
              show Ending.returned (Value.int .i64 ((s : Int) + (d : Int))) = _
              rw [unhide HEE, Int.natCast_add]
            · have t2 : (((s : Int) + (d : Int) - ((k + 1 : Nat) : Int)) % 2 == 0) = false := beq_eq_false_iff_ne.2 (by omega)
              have HX1 := hide h1
              clear h1 h2 hX
              go_wp2
              go_roundg (n - (s + d + 1))
              case measure => omega
              case rel => exact ⟨rfl, s + d + 1, by go_num, by omega, rfl, unhide HX1⟩
    · have hno : NoQ bs bs.length := fun i hi hq => by
        rcases Nat.lt_or_ge i s with h | h
        · exact unhide HS i h hq
        · exact absurd hq (hnone i h hi)
      have e := (unhide HE).of_no hno
      subst e
      have hib : ∀ x, (∀ i, i < n - s → w.cell? ⟨b, x + i, none⟩ = some (.int .u8 ((bs.drop s).getD i 0))) → Calls Try.prog 34 #[.slice (some ⟨b, x, none⟩) (n - s) (cap - s), .int .u8 34] w fun e w' => e = .returned (.int .i64 (-1)) ∧ w = w' := fun x hx =>
        ib_any w b x (n - s) (cap - s) (bs.drop s) (-1) (by have := unhide HN; simp; omega) hx
        (idx_none _ (fun c hc => unhide HR c (List.mem_of_mem_drop hc)) (fun i hi => by rw [bat_drop]; exact hnone (s + i) (by omega) (by simp at hi; omega)))
      clear hnone hno
      by_cases hcs : cap = s
      · have hx := hib o (fun i hi => by omega)
        rw [show cap - s = 0 by omega] at hx
        have HIB := hide hx
        clear hx hib
        go_wp2_with (go_at_call 34; refine (unhide HIB).mono ?_; rintro e w' ⟨rfl, rfl⟩)
        go_ret
        exact ⟨rfl, rfl⟩
      · have hx := hib (o + s) (fun i hi => by
          have := unhide HC (s + i) (by omega)
          rw [← Nat.add_assoc] at this
          rw [this, ← bat_drop]; rfl)
        have HIB := hide hx
        clear hx hib
        go_wp2_with (go_at_call 34; refine (unhide HIB).mono ?_; rintro e w' ⟨rfl, rfl⟩)
        go_ret
        exact ⟨rfl, rfl⟩

/-- A slice whose address is of the plain kind. -/
def Adr (a : Option Addr) : Prop := a = none ∨ ∃ b o, a = some ⟨b, o, none⟩

theorem str_any (w : World) (B : Nat) (a : Option Addr) (n cap : Nat) (r : Int) (bs : List Int) (hr : Rd w B a cap bs) (ha : Adr a) (hn : bs.length = n) (hl : n ≤ 1000000000000) (hrg : ∀ c ∈ bs, 0 ≤ c ∧ c < 256) (hE : Ends bs r) :
    Calls Try.prog 31 #[.slice a n cap] w fun e w' => e = .returned (.int .i64 r) ∧ w = w' := by
  rcases ha with rfl | ⟨b, o, rfl⟩
  · have h0 := hr.nil rfl
    have h1 := hr.le
    obtain rfl : n = 0 := by omega
    obtain rfl : cap = 0 := by omega
    obtain rfl : bs = [] := List.eq_nil_of_length_eq_zero hn
    obtain rfl := hE.of_no (fun i hi => by simp at hi)
    exact str_nil w
  · exact str_some w B b o n cap r bs hr hn hl hrg hE

set_option maxHeartbeats 1000000 in
theorem zz_any (w : World) (B : Nat) (a : Option Addr) (n cap : Nat) (r : Int) (bs : List Int) (hr : Rd w B a cap bs) (ha : Adr a) (hn : bs.length = n) (hl : n ≤ 1000000000000) (hrg : ∀ c ∈ bs, 0 ≤ c ∧ c < 256) (hE : Ends bs r) :
    Calls Try.prog 24 #[.slice a n cap] w fun e w' => e = .returned (.int .i64 r) ∧ w = w' := by
  have H := hide (str_any w B a n cap r bs hr ha hn hl hrg hE)
  clear hr ha hn hl hrg hE
  go_enter Try.func24, Try.ntmps24
  go_wp2_with (go_at_call 31; refine (unhide H).mono ?_; rintro e w' ⟨rfl, rfl⟩)
  go_ret
  exact ⟨rfl, rfl⟩

set_option maxHeartbeats 4000000 in
theorem scan_any (w : World) (B : Nat) (a : Option Addr) (n cap : Nat) (r : Int) (bs : List Int) (hr : Rd w B a cap bs) (hn : bs.length = n) (hl : n ≤ 1000000000000) (hE : Ends bs r) :
    Calls Try.prog 25 #[.slice a n cap] w fun e w' => e = .returned (.int .i64 r) ∧ w = w' := by
  have HN := hide hn
  have HE := hide hE
  have HRD := hide hr
  clear hn hE hr
  go_enter Try.func25, Try.ntmps25
  go_wp2
  go_loopg [3, 4] n (fun g ev pv wr => w = wr ∧ ∃ p : Nat, p ≤ n ∧ ev = .bool (esc bs p) ∧ pv = .int .i64 (p : Int) ∧ g = n - p ∧ Hid (NoQ bs p))
  case atStart => exact ⟨rfl, 0, Nat.zero_le _, rfl, rfl, rfl, fun i hi => by omega⟩
  case round =>
    obtain ⟨rfl, p, hp, rfl, rfl, rfl, HP⟩ := hrel
    by_cases hpn : p < n
    · obtain ⟨b, o, rfl, hcell⟩ : ∃ b o, a = some ⟨b, o, none⟩ ∧ w.cell? ⟨b, o + p, none⟩ = some (.int .u8 (bat bs p)) := by
        have hr := unhide HRD
        have hn := unhide HN
        rcases hr.cells with h0 | ⟨b', o', he, _, hc⟩
        · omega
        · exact ⟨b', o', he, hc p (by omega)⟩
      cases he : esc bs p
      · by_cases h92 : bat bs p = 92
        · have t1 : (bat bs p == 92) = true := beq_iff_eq.2 h92
          have HX : Hid (esc bs (p + 1) = true ∧ NoQ bs (p + 1)) := by
            refine ⟨by rw [esc_succ, decide_eq_true h92, he]; rfl, fun i hi hq => ?_⟩
            by_cases e : i = p
            · subst e; omega
            · exact unhide HP i (by omega) hq
          clear he h92
          go_wp2
          go_roundg (n - (p + 1))
          case measure => omega
          case rel => exact ⟨rfl, p + 1, by omega, by rw [(unhide HX).1], by go_num, rfl, (unhide HX).2⟩
        · have t1 : (bat bs p == 92) = false := beq_eq_false_iff_ne.2 h92
          by_cases h34 : bat bs p = 34
          · have t2 : (bat bs p == 34) = true := beq_iff_eq.2 h34
            have e : r = (p : Int) := (unhide HE).of_qt p ⟨by have := unhide HN; omega, h34, he, unhide HP⟩
            subst e
            clear he h92 h34
            go_wp2
            go_ret
            exact ⟨rfl, rfl⟩
          · have t2 : (bat bs p == 34) = false := beq_eq_false_iff_ne.2 h34
            have HX : Hid (esc bs (p + 1) = false ∧ NoQ bs (p + 1)) := by
              refine ⟨by rw [esc_succ, decide_eq_false h92]; rfl, fun i hi hq => ?_⟩
              by_cases e : i = p
              · subst e; omega
              · exact unhide HP i (by omega) hq
            clear he h92 h34
            go_wp2
            go_roundg (n - (p + 1))
            case measure => omega
            case rel => exact ⟨rfl, p + 1, by omega, by rw [(unhide HX).1], by go_num, rfl, (unhide HX).2⟩
      · have HX : Hid (esc bs (p + 1) = false ∧ NoQ bs (p + 1)) := by
          refine ⟨by rw [esc_succ, he]; simp, fun i hi hq => ?_⟩
          by_cases e : i = p
          · subst e; exact he
          · exact unhide HP i (by omega) hq
        clear he
        go_wp2
        go_roundg (n - (p + 1))
        case measure => omega
        case rel => exact ⟨rfl, p + 1, by omega, by rw [(unhide HX).1], by go_num, rfl, (unhide HX).2⟩
    · obtain rfl : p = n := by omega
      have e : r = -1 := (unhide HE).of_no (by have h1 := unhide HN; have h2 := unhide HP; rw [h1]; exact h2)
      subst e
      go_wp2
      go_ret
      exact ⟨rfl, rfl⟩

end Go.Proofs.Qxb6600068a
