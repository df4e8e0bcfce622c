import Derived.Test.Qxb6600108aC4
namespace Go.Proofs.Qxb6600108a
set_option linter.unusedVariables false
set_option linter.unusedSimpArgs false
open Go.RowKit Go.Zq Go.Zp

theorem rd_cell {w : World} {B cap : Nat} {a : Option Addr} {l : List Int} (hr : Rd w B a cap l) {q : Nat} {c : Int} (hq : q < l.length) (hc : bat l q = c) : ∃ b o, a = some ⟨b, o, none⟩ ∧ w.cell? ⟨b, o + q, none⟩ = some (.int .u8 c) := by
  rcases hr.cells with h0 | ⟨b', o', he, _, h⟩
  · omega
  · exact ⟨b', o', he, by rw [h q hq, hc]⟩

theorem mid_lt {l d r : List Int} {q : Nat} (h : l.drop q = d ++ 34 :: r) : q < l.length := by
  have := congrArg List.length h
  simp at this; omega
theorem mid_len {l r : List Int} {x : List Int} {j q : Nat} (h : l.drop q = dbl (x.drop j) ++ 34 :: r) (hj : j ≤ x.length) : x.length - j ≤ l.length := by
  have h1 := congrArg List.length h
  have h2 := dbl_ge (x.drop j)
  simp at h1 h2; omega
theorem oneCell_own {base : Nat} {w : World} {v : Value} {bs : List Int} (h : Own base w v bs) : v.oneCell' = true := by
  obtain ⟨a, c, rfl, _⟩ := h.rd
  rfl

theorem spc_all {c : Int} (h : spc c = false) : (c != 44) = true ∧ (c == 34) = false ∧ (c == 13) = false ∧ (c == 10) = false := by
  unfold spc at h
  simp at h
  simp [h]

set_option maxHeartbeats 16000000 in
set_option maxRecDepth 100000 in
theorem rec_any (a : Option Addr) (n cap : Nat) (l : List Int) (xss : List (List Int)) (w : World) (hr : Rd w w.heap.size a cap l) (hn : l.length = n) (hl : n ≤ 100000000) (hj : l = joinF xss) (hx : 0 < xss.length) (hx2 : xss.length ≤ 100000) :
    Calls Try.prog 26 #[.slice a n cap] w fun e w' => ∃ v es, e = .returned (.tuple #[v, .bool true]) ∧ OwnR w.heap.size w' v es ∧ Els w' es xss ∧ Below w.heap.size w w' := by
  have hcap : n ≤ cap := by have := hr.le; omega
  have HRD := hide hr
  have HN := hide hn
  have HJ := hide (show l.drop 0 = joinF (xss.drop 0) by simp [hj])
  clear hr hn hj
  go_enter Try.func26, Try.ntmps26
  go_wp2
  go_loopg [4, 6] xss.length (fun g fv iv wr => ∃ (k p : Nat) (es : List Value), k < xss.length ∧ g = xss.length - k ∧ iv = .int .i64 (p : Int) ∧ p ≤ n ∧ Hid (l.drop p = joinF (xss.drop k)) ∧ OwnR w.heap.size wr fv es ∧ Els wr es (xss.take k) ∧ Below w.heap.size w wr)
  case atStart => exact ⟨0, 0, [], hx, rfl, rfl, Nat.zero_le _, unhide HJ, OwnR.nil _ _, ⟨by simp, fun j hj => by simp at hj⟩, Below.refl _ _⟩
  case round =>
    obtain ⟨k, p, es, hk, rfl, rfl, hpn, HD, hownF, hels, hbelA⟩ := hrel
    obtain ⟨wA, hwA⟩ : ∃ wA, wA = wr := ⟨_, rfl⟩
    subst hwA
    obtain ⟨x, hxe⟩ : ∃ x, x = xss.getD k [] := ⟨_, rfl⟩
    have hdk : xss.drop k = x :: xss.drop (k + 1) := by
      rw [hxe, List.drop_eq_getElem_cons hk]; simp [hk]
    have hdr : l.drop p = fld x ++ restF (xss.drop (k + 1)) := by rw [unhide HD, hdk, joinF_cons]
    have HTK := hide (show xss.take (k + 1) = xss.take k ++ [x] by rw [hxe, List.take_add_one]; simp [hk])
    clear hxe hdk
    have hrA := (unhide HRD).keep hbelA
    have hnn := unhide HN
    cases hq : x.any spc
    · have e : fld x = x := by unfold fld; rw [hq]; rfl
      rw [e] at hdr
      have HS := hide hq
      rcases Nat.lt_or_ge p n with hpn1 | hpn1
      · obtain ⟨c, hc, t34⟩ : ∃ c, bat l p = c ∧ (c == 34) = false := by
          cases x with
          | nil =>
            rcases restF_cases (xss.drop (k + 1)) with ⟨hr1, hr2⟩ | ⟨hr1, hr2⟩
            · rw [hr2] at hdr
              have := drop_end hdr
              omega
            · rw [hr2] at hdr
              obtain ⟨_, h2, _⟩ := drop_cons (show l.drop p = 44 :: _ from hdr)
              exact ⟨44, h2, rfl⟩
          | cons y t =>
            obtain ⟨_, h2, _⟩ := drop_cons (show l.drop p = y :: (t ++ _) from hdr)
            have h3 := spc_34 (not_spc hq 0 (by simp))
            exact ⟨y, h2, by simpa [bat] using h3⟩
        obtain ⟨b, o, rfl, hcell⟩ := rd_cell hrA (by omega) hc
        have hxl : x.length ≤ n := by
          have h4 := congrArg List.length hdr
          simp at h4; omega
        have H3 := hide hdr
        clear hdr hc e hq hnn
        go_wp2
        go_loopg [6, 7] x.length (fun g iv fv wr => ∃ j q : Nat, j ≤ x.length ∧ g = x.length - j ∧ iv = .int .i64 (q : Int) ∧ q ≤ n ∧ Hid (l.drop q = x.drop j ++ restF (xss.drop (k + 1))) ∧ Own wA.heap.size wr fv (x.take j) ∧ Below wA.heap.size wA wr)
        case atStart => exact ⟨0, p, Nat.zero_le _, rfl, rfl, hpn, unhide H3, by simpa using Own.nil _ _, Below.refl _ _⟩
        case round =>
          obtain ⟨j, q, hjx, rfl, rfl, hqn, HQ, hownX, hbelX⟩ := hrel
          obtain ⟨wB, hwB⟩ : ∃ wB, wB = wr := ⟨_, rfl⟩
          subst hwB
          have hbelB : Below w.heap.size w wB := hbelA.trans (hbelX.mono hbelA.size)
          have hrB := (unhide HRD).keep hbelB
          have hszX := hbelX.size
          have htl : (x.take j).length ≤ 100000000 := by simp; omega
          have hdB := unhide HQ
          have hnn := unhide HN
          by_cases hjl : j < x.length
          · rw [drop_next x j hjl, List.cons_append] at hdB
            obtain ⟨h1, h2, h3⟩ := drop_cons hdB
            obtain ⟨b1, o1, he1, hc1⟩ := rd_cell hrB h1 h2
            cases he1
            obtain ⟨t1, t2, t3, t4⟩ := spc_all (not_spc (unhide HS) j hjl)
            have HT := hide (take_next x j hjl)
            have H3b := hide h3
            have hq2 : q < n := by omega
            clear hdB h1 h2 h3 hnn hrB
            go_wp2_with (at_builtin; refine wpList_append_lit _ rfl (.tmp 82) (.tmp 84) 22 rfl wA.heap.size Try.underlying22 Try.info5 _ _ [bat x j] 1 _ wA rfl rfl rfl rfl hownX hbelX (by omega) hszX ?_; intro v3 w3 hown3 hbel3 hsz3)
            go_roundg (x.length - (j + 1))
            case measure => omega
            case rel => exact ⟨j + 1, q + 1, by omega, rfl, by go_num, hq2, unhide H3b, by rw [unhide HT]; exact hown3, hbel3⟩
          · obtain rfl : j = x.length := by omega
            rw [List.drop_length, List.nil_append] at hdB
            rw [List.take_length] at hownX
            obtain ⟨fa, fc, rfl, _⟩ := own_slice hownX rfl
            have hownB := hownF.later hbelX
            have helsB := hels.later hbelX
            have hone := oneCell_own hownX
            have hszB := hbelB.size
            have hesl : es.length + 1 ≤ 1000000000 := by have := hels.1; rw [List.length_take] at this; omega
            rcases restF_cases (xss.drop (k + 1)) with ⟨hr1, hr2⟩ | ⟨hr1, hr2⟩
            · rw [hr2] at hdB
              have h4 := drop_end hdB
              obtain rfl : n = q := by omega
              have hk1 : k + 1 = xss.length := by have := congrArg List.length hr1; simp at this; omega
              have HK := hide hk1
              clear h4 hdB hr1 hr2 hk1 hnn hrB
              go_wp2_with (at_builtin; refine wpList_append_one wB rfl (.tmp 88) (.tmp 90) rfl w.heap.size _ _ es _ ?e1 ?e2 ?e3 hone hownB hesl hszB ?_; (case e1 => rfl); (case e2 => rfl); (case e3 => rfl); intro v3 w3 hown3 hg3)
              go_ret2
              have hels3 := Els.snoc _ helsB hownB (hownX.mono (Nat.zero_le _)) hg3
              refine ⟨_, _, rfl, hown3, ?_, (hownB.alloc _).below hg3 (hbelB.alloc hszB _) (by simp; omega)⟩
              rw [← unhide HTK, unhide HK, List.take_length] at hels3
              exact hels3
            · rw [hr2] at hdB
              obtain ⟨h4, h5, h6⟩ := drop_cons hdB
              obtain ⟨b2, o2, he2, hc2⟩ := rd_cell hrB h4 h5
              cases he2
              have hk1 : k + 1 < xss.length := by
                rcases Nat.lt_or_ge (k + 1) xss.length with h | h
                · exact h
                · exact absurd (List.drop_eq_nil_of_le h) hr1
              have hq2 : q < n := by omega
              have H45 := hide (And.intro h4 h5)
              have H6 := hide h6
              clear h4 h5 h6 hdB hr1 hr2 hnn hrB
              go_wp2_with (at_builtin; refine wpList_append_one wB rfl (.tmp 88) (.tmp 90) rfl w.heap.size _ _ es _ ?e1 ?e2 ?e3 hone hownB hesl hszB ?_; (case e1 => rfl); (case e2 => rfl); (case e3 => rfl); intro v3 w3 hown3 hg3; have hbel3 : Below w.heap.size w w3 := (hownB.alloc _).below hg3 (hbelB.alloc hszB _) (by simp; omega); obtain ⟨b3, o3, he3, hc3⟩ := rd_cell ((unhide HRD).keep hbel3) (unhide H45).1 (unhide H45).2; cases he3)
              go_roundg (xss.length - (k + 1))
              case measure => omega
              case rel =>
                have hels3 := Els.snoc _ helsB hownB (hownX.mono (Nat.zero_le _)) hg3
                rw [← unhide HTK] at hels3
                exact ⟨k + 1, q + 1, _, hk1, rfl, by go_num, by omega, unhide H6, hown3, hels3, hbel3⟩
      · obtain rfl : p = n := by omega
        rw [List.drop_eq_nil_of_le (by omega)] at hdr
        have hx0 : x = [] := by cases x with
          | nil => rfl
          | cons y t => cases hdr
        subst hx0
        have hk1 : k + 1 = xss.length := by
          rcases restF_cases (xss.drop (k + 1)) with ⟨hr1, hr2⟩ | ⟨hr1, hr2⟩
          · have := congrArg List.length hr1; simp at this; omega
          · rw [hr2] at hdr; cases hdr
        have HK := hide hk1
        have hesl : es.length + 1 ≤ 1000000000 := by have := hels.1; rw [List.length_take] at this; omega
        have hszA := hbelA.size
        clear hdr e hq hnn hk1 hrA
        go_wp2
        go_loopg [6, 7] 0 (fun g iv fv wr => wA = wr ∧ iv = .int .i64 (p : Int) ∧ fv = .slice none 0 0)
        case atStart => exact ⟨rfl, rfl, rfl⟩
        case round =>
          obtain ⟨rfl, rfl, rfl⟩ := hrel
          have hone := oneCell_own (Own.nil 0 wA)
          go_wp2_with (at_builtin; refine wpList_append_one wA rfl (.tmp 88) (.tmp 90) rfl w.heap.size _ _ es _ ?e1 ?e2 ?e3 hone hownF hesl hszA ?_; (case e1 => rfl); (case e2 => rfl); (case e3 => rfl); intro v3 w3 hown3 hg3)
          go_ret2
          have hels3 := Els.snoc _ hels hownF (Own.nil 0 wA) hg3
          refine ⟨_, _, rfl, hown3, ?_, (hownF.alloc _).below hg3 (hbelA.alloc hszA _) (by simp; omega)⟩
          rw [← unhide HTK, unhide HK, List.take_length] at hels3
          exact hels3
    · have e : fld x = 34 :: (dbl x ++ [34]) := by unfold fld; rw [hq]; rfl
      rw [e, List.cons_append] at hdr
      obtain ⟨h1, h2, h3⟩ := drop_cons hdr
      obtain ⟨b, o, rfl, hcell⟩ := rd_cell hrA h1 h2
      have hpn1 : p < n := by omega
      have hxl : x.length ≤ n := by
        have h4 := mid_len (x := x) (j := 0) (q := p + 1) (r := restF (xss.drop (k + 1))) (by rw [h3]; simp) (Nat.zero_le _)
        omega
      have H3 := hide (show l.drop (p + 1) = dbl x ++ 34 :: restF (xss.drop (k + 1)) by rw [h3]; simp)
      clear hdr h1 h2 h3 e hq hnn
      go_wp2
      go_loopg [6, 7] x.length (fun g iv fv wr => ∃ j q : Nat, j ≤ x.length ∧ g = x.length - j ∧ iv = .int .i64 (q : Int) ∧ q < n ∧ Hid (l.drop q = dbl (x.drop j) ++ 34 :: restF (xss.drop (k + 1))) ∧ Own wA.heap.size wr fv (x.take j) ∧ Below wA.heap.size wA wr)
      case atStart => exact ⟨0, p + 1, Nat.zero_le _, rfl, by go_num, by have := mid_lt (unhide H3); have := unhide HN; omega, unhide H3, by simpa using Own.nil _ _, Below.refl _ _⟩
      case round =>
        obtain ⟨j, q, hjx, rfl, rfl, hqn, HQ, hownX, hbelX⟩ := hrel
        obtain ⟨wB, hwB⟩ : ∃ wB, wB = wr := ⟨_, rfl⟩
        subst hwB
        have hbelB : Below w.heap.size w wB := hbelA.trans (hbelX.mono hbelA.size)
        have hrB := (unhide HRD).keep hbelB
        have hszX := hbelX.size
        have htl : (x.take j).length ≤ 100000000 := by simp; omega
        have hdB := unhide HQ
        have hnn := unhide HN
        by_cases hjl : j < x.length
        · rw [drop_next x j hjl] at hdB
          by_cases h34 : bat x j = 34
          · have e1 : dbl (bat x j :: x.drop (j + 1)) ++ 34 :: restF (xss.drop (k + 1)) = 34 :: 34 :: (dbl (x.drop (j + 1)) ++ 34 :: restF (xss.drop (k + 1))) := by simp [dbl, h34]
            rw [e1] at hdB
            obtain ⟨h1, h2, h3⟩ := drop_cons hdB
            obtain ⟨h4, h5, h6⟩ := drop_cons h3
            obtain ⟨b1, o1, he1, hc1⟩ := rd_cell hrB h1 h2
            obtain ⟨b2, o2, he2, hc2⟩ := rd_cell hrB h4 h5
            cases he1; cases he2
            have HT := hide (And.intro (take_next x j hjl) h34)
            have H6 := hide h6
            have h7 := mid_lt h6
            have hq2 : q + 2 < n := by omega
            clear hdB h1 h2 h3 h4 h5 h6 h7 e1 h34 hnn hrB
            go_wp2_with (at_builtin; refine wpList_append_lit _ rfl (.tmp 45) (.tmp 46) 22 rfl wA.heap.size Try.underlying22 Try.info5 _ _ [34] 1 _ wA rfl rfl rfl rfl hownX hbelX (by omega) hszX ?_; intro v3 w3 hown3 hbel3 hsz3)
            go_roundg (x.length - (j + 1))
            case measure => omega
            case rel => exact ⟨j + 1, q + 2, by omega, rfl, by go_num, hq2, unhide H6, by rw [(unhide HT).1, (unhide HT).2]; exact hown3, hbel3⟩
          · have e1 : dbl (bat x j :: x.drop (j + 1)) ++ 34 :: restF (xss.drop (k + 1)) = bat x j :: (dbl (x.drop (j + 1)) ++ 34 :: restF (xss.drop (k + 1))) := by simp [dbl, h34]
            rw [e1] at hdB
            obtain ⟨h1, h2, h3⟩ := drop_cons hdB
            obtain ⟨b1, o1, he1, hc1⟩ := rd_cell hrB h1 h2
            cases he1
            have t1 : (bat x j == 34) = false := beq_eq_false_iff_ne.2 h34
            have HT := hide (take_next x j hjl)
            have H3b := hide h3
            have h7 := mid_lt h3
            have hq2 : q + 1 < n := by omega
            clear hdB h1 h2 h3 h7 e1 h34 hnn hrB
            go_wp2_with (at_builtin; refine wpList_append_lit _ rfl (.tmp 52) (.tmp 54) 22 rfl wA.heap.size Try.underlying22 Try.info5 _ _ [bat x j] 1 _ wA rfl rfl rfl rfl hownX hbelX (by omega) hszX ?_; intro v3 w3 hown3 hbel3 hsz3)
            go_roundg (x.length - (j + 1))
            case measure => omega
            case rel => exact ⟨j + 1, q + 1, by omega, rfl, by go_num, hq2, unhide H3b, by rw [unhide HT]; exact hown3, hbel3⟩
        · obtain rfl : j = x.length := by omega
          rw [List.drop_length] at hdB
          rw [List.take_length] at hownX
          obtain ⟨fa, fc, rfl, _⟩ := own_slice hownX rfl
          obtain ⟨h1, h2, h3⟩ := drop_cons (show l.drop q = 34 :: restF (xss.drop (k + 1)) from hdB)
          obtain ⟨b1, o1, he1, hc1⟩ := rd_cell hrB h1 h2
          cases he1
          have hownB := hownF.later hbelX
          have helsB := hels.later hbelX
          have hone := oneCell_own hownX
          have hszB := hbelB.size
          have hesl : es.length + 1 ≤ 1000000000 := by have := hels.1; rw [List.length_take] at this; omega
          rcases restF_cases (xss.drop (k + 1)) with ⟨hr1, hr2⟩ | ⟨hr1, hr2⟩
          · rw [hr2] at h3
            have h4 := drop_end h3
            obtain rfl : n = q + 1 := by omega
            have hk1 : k + 1 = xss.length := by have := congrArg List.length hr1; simp at this; omega
            have HK := hide hk1
            clear h3 h4 h1 h2 hdB hr1 hr2 hk1 hnn hrB
            go_wp2_with (at_builtin; refine wpList_append_one wB rfl (.tmp 88) (.tmp 90) rfl w.heap.size _ _ es _ ?e1 ?e2 ?e3 hone hownB hesl hszB ?_; (case e1 => rfl); (case e2 => rfl); (case e3 => rfl); intro v3 w3 hown3 hg3)
            go_ret2
            have hels3 := Els.snoc _ helsB hownB (hownX.mono (Nat.zero_le _)) hg3
            refine ⟨_, _, rfl, hown3, ?_, (hownB.alloc _).below hg3 (hbelB.alloc hszB _) (by simp; omega)⟩
            rw [← unhide HTK, unhide HK, List.take_length] at hels3
            exact hels3
          · rw [hr2] at h3
            obtain ⟨h4, h5, h6⟩ := drop_cons h3
            obtain ⟨b2, o2, he2, hc2⟩ := rd_cell hrB h4 h5
            cases he2
            have hk1 : k + 1 < xss.length := by
              rcases Nat.lt_or_ge (k + 1) xss.length with h | h
              · exact h
              · exact absurd (List.drop_eq_nil_of_le h) hr1
            have hq2 : q + 1 < n := by omega
            have H45 := hide (And.intro h4 h5)
            have H6 := hide h6
            clear h3 h4 h5 h6 h1 h2 hdB hr1 hr2 hnn hrB
            go_wp2_with (at_builtin; refine wpList_append_one wB rfl (.tmp 88) (.tmp 90) rfl w.heap.size _ _ es _ ?e1 ?e2 ?e3 hone hownB hesl hszB ?_; (case e1 => rfl); (case e2 => rfl); (case e3 => rfl); intro v3 w3 hown3 hg3; have hbel3 : Below w.heap.size w w3 := (hownB.alloc _).below hg3 (hbelB.alloc hszB _) (by simp; omega); obtain ⟨b3, o3, he3, hc3⟩ := rd_cell ((unhide HRD).keep hbel3) (unhide H45).1 (unhide H45).2; cases he3)
            go_roundg (xss.length - (k + 1))
            case measure => omega
            case rel =>
              have hels3 := Els.snoc _ helsB hownB (hownX.mono (Nat.zero_le _)) hg3
              rw [← unhide HTK] at hels3
              exact ⟨k + 1, q + 2, _, hk1, rfl, by go_num, by omega, unhide H6, hown3, hels3, hbel3⟩

end Go.Proofs.Qxb6600108a
