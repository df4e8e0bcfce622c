import Derived.Test.Qxb6600003aOpen
import Derived.Test.Qxb6600003aA5
namespace Go.Proofs.Qxb6600003a.escaped
open Go.ChangeShapes Go.WideShapes Go.ChangeAt Go.RowKit Go.Zq Go.Zp
set_option linter.unusedVariables false

/-- THE WALK of the law. -/
theorem law3 (a0 a1 a2 a3 : Option Addr) (n0 c0 n1 c1 n2 c2 n3 c3 : Nat) (ps ss fs ts : List Int) (w : World)
    (hr0 : Rd w w.heap.size a0 c0 ps) (hn0 : ps.length = n0) (hr1 : Rd w w.heap.size a1 c1 ss) (hn1 : ss.length = n1) (hr2 : Rd w w.heap.size a2 c2 fs) (hn2 : fs.length = n2) (hr3 : Rd w w.heap.size a3 c3 ts) (hn3 : ts.length = n3)
    (g0 : ∀ c ∈ ps, 0 ≤ c ∧ c < 256) (g1 : ∀ c ∈ ss, 0 ≤ c ∧ c < 256) (g3 : ∀ c ∈ ts, 0 ≤ c ∧ c < 256) :
    Calls Try.prog 3 #[.slice a0 n0 c0, .slice a1 n1 c1, .slice a2 n2 c2, .slice a3 n3 c3] w fun e w' => e = .returned (.bool true) ∧ Below w.heap.size w w' := by
  by_cases h : n0 ≤ 65536 ∧ n1 ≤ 65536 ∧ n2 ≤ 65536 ∧ n3 ≤ 65536
  · exact law3_main a0 a1 a2 a3 n0 c0 n1 c1 n2 c2 n3 c3 ps ss fs ts w h.1 h.2.1 h.2.2.1 h.2.2.2 hr0 hn0 hr1 hn1 hr2 hn2 hr3 hn3 g0 g1 g3
  · exact law3_early a0 a1 a2 a3 n0 c0 n1 c1 n2 c2 n3 c3 w (by have := hr0.le; have := hr0.max; omega) (by have := hr1.le; have := hr1.max; omega) (by have := hr2.le; have := hr2.max; omega) (by have := hr3.le; have := hr3.max; omega) (by omega)

set_option maxRecDepth 100000 in
theorem lifted (os : Os) (started : os.Started) (H : Type) (enc : TypeId × Value → H) :
    ReturnsInHanded {} Try.checked os 3 .any (Rows.fnStringEndAcceptsEscapedTextSpec.pre6 enc Try.prog Try.f3 Rows.fnStringEndAcceptsEscapedTextRow.domain false) (Rows.fnStringEndAcceptsEscapedTextSpec.post enc Try.prog Try.f3 false true false false) := by
  refine returnsInHanded_of_change (C := Try.checked) own started (by kernel_rfl) Try.func3
    (ChangeSpec.witness6 (enc := enc) (C := Try.checked) false ⟨#[], #[.slice none 0 0, .slice none 0 0, .slice none 0 0, .slice none 0 0], []⟩ 8 (by kernel_rfl) (by kernel_rfl) (by kernel_rfl) (by kernel_rfl)) ?_
  intro W base args ds gs before hval0 hW hcnd _
  have hval : ∀ (j : Nat) t v, Try.f3.params[j]? = some t → args[j]? = some v → Value.okWide Try.prog W .any base t v := hval0
  have hW' := hW
  obtain ⟨p, q, hA0, hV, rfl, hfz, hnd⟩ := hW
  have hA : DataW.TrodAll enc Try.prog W 0 (fun _ => true) true Try.f3.params.toList args.toList ds p := hA0
  rw [Try.params3] at hA hval
  obtain ⟨v0, vs0, d0, ds0, p0, q0, hargs, rfl, rfl, h0, r0⟩ := trodAll_cons hA
  obtain ⟨v1, vs1, d1, ds1, p1, q1, rfl, rfl, rfl, h1, r1⟩ := trodAll_cons r0
  obtain ⟨v2, vs2, d2, ds2, p2, q2, rfl, rfl, rfl, h2, r2⟩ := trodAll_cons r1
  obtain ⟨v3, vs3, d3, ds3, p3, q3, rfl, rfl, rfl, h3, r3⟩ := trodAll_cons r2
  obtain ⟨rfl, rfl, rfl⟩ := trodAll_nil r3
  obtain rfl : args = #[v0, v1, v2, v3] := by cases args; simp_all
  obtain ⟨rfl, rfl⟩ := trodVars_none hV
  obtain ⟨a0, len0, cap0, rfl⟩ := okWide_slice Try.underlying22 (hval 0 22 v0 rfl rfl)
  have lt0 : ∀ x ∈ p0, x.block < W.heap.size := by obtain ⟨m, hm⟩ := h0; exact DataW.trod_lt m _ _ _ hm
  obtain ⟨b0, hr0, hn0, hg0⟩ := rd_open h0
  obtain ⟨a1, len1, cap1, rfl⟩ := okWide_slice Try.underlying22 (hval 1 22 v1 rfl rfl)
  have lt1 : ∀ x ∈ p1, x.block < W.heap.size := by obtain ⟨m, hm⟩ := h1; exact DataW.trod_lt m _ _ _ hm
  obtain ⟨b1, hr1, hn1, hg1⟩ := rd_open h1
  obtain ⟨a2, len2, cap2, rfl⟩ := okWide_slice Try.underlying22 (hval 2 22 v2 rfl rfl)
  have lt2 : ∀ x ∈ p2, x.block < W.heap.size := by obtain ⟨m, hm⟩ := h2; exact DataW.trod_lt m _ _ _ hm
  obtain ⟨b2, hr2, hn2, hg2⟩ := rd_open h2
  obtain ⟨a3, len3, cap3, rfl⟩ := okWide_slice Try.underlying22 (hval 3 22 v3 rfl rfl)
  have lt3 : ∀ x ∈ p3, x.block < W.heap.size := by obtain ⟨m, hm⟩ := h3; exact DataW.trod_lt m _ _ _ hm
  obtain ⟨b3, hr3, hn3, hg3⟩ := rd_open h3
  clear hA0 hval0
  refine (law3 a0 a1 a2 a3 len0 cap0 len1 cap1 len2 cap2 len3 cap3 b0 b1 b2 b3 W hr0 hn0 hr1 hn1 hr2 hn2 hr3 hn3 hg0 hg1 hg3).mono fun e W' ⟨he, bel⟩ => ?_
  subst he
  exact ⟨_, rfl, _, _, _, [], _, [], hW', trodAll_mk1 (shut_bool Try.underlying4 _), (trodAll_cons_mk (Below.trod laidOut (by kernel_rfl) (of_decide_eq_true (by kernel_rfl)) h0 bel lt0) (trodAll_cons_mk (Below.trod laidOut (by kernel_rfl) (of_decide_eq_true (by kernel_rfl)) h1 bel lt1) (trodAll_cons_mk (Below.trod laidOut (by kernel_rfl) (of_decide_eq_true (by kernel_rfl)) h2 bel lt2) (trodAll_cons_mk (Below.trod laidOut (by kernel_rfl) (of_decide_eq_true (by kernel_rfl)) h3 bel lt3) trodAll_mk0)))), rfl, bel.frame _, fun h => by cases h⟩

theorem over : Rows.fnStringEndAcceptsEscapedTextRow.holds Try.pinned (OpenSpec.ofChange Rows.fnStringEndAcceptsEscapedTextSpec) :=
  OpenClaim.holds_of_wide 3 Try.f3 rfl rfl rfl rfl rfl rfl rfl ⟨rfl, rfl, rfl, rfl, rfl⟩ rfl rfl rfl rfl rfl (by kernel_rfl) Try.func3 (by kernel_rfl)
    (of_decide_eq_true (by kernel_rfl)) (by unfold Func.isWrapper; first | (rw [if_pos (by decide +kernel)]; kernel_rfl) | (rw [if_neg (by decide +kernel)]; exact ⟨rfl, rfl⟩))
    (fun os started H enc _ => lifted os started H enc)

theorem proved : Rows.FnStringEndAcceptsEscapedTextSaid := over
end Go.Proofs.Qxb6600003a.escaped
