import Derived.Test.Qxb6002687aOpen
import Derived.Test.Qxb6002687aM2
import Derived.Test.Qxb6002687aM3
namespace Go.Proofs.Qxb6002687a.object
open Go.ChangeShapes Go.WideShapes Go.ChangeAt Go.RowKit Go.Zq Go.Zp
set_option linter.unusedVariables false

/-- THE WALK of the law. -/
theorem law5 (a1 a2 : Option Addr) (n1 c1 n2 c2 : Nat) (ns vs : List ByteArray) (w : World)
    (hr1 : RdS w w.heap.size a1 c1 ns) (hn1 : ns.length = n1) (hr2 : RdS w w.heap.size a2 c2 vs) (hn2 : vs.length = n2) :
    Calls Try.prog 5 #[.slice a1 n1 c1, .slice a2 n2 c2] w fun e w' => e = .returned (.bool true) ∧ Below w.heap.size w w' := by
  by_cases h : n1 ≤ 1024 ∧ n2 ≤ 1024
  · by_cases hmin : n2 < n1
    · exact law5_lt a1 a2 n1 c1 n2 c2 ns vs w hr1 hn1 hr2 hn2 h.1 h.2 hmin
    · exact law5_ge a1 a2 n1 c1 n2 c2 ns vs w hr1 hn1 hr2 hn2 h.1 h.2 hmin
  · exact law5_early a1 a2 n1 c1 n2 c2 ns vs w hr1 hn1 hr2 hn2 (by omega)

set_option maxRecDepth 100000 in
theorem lifted (os : Os) (started : os.Started) (H : Type) (enc : TypeId × Value → H) :
    ReturnsInHanded {} Try.checked os 5 .any (Rows.fnObjectReadsBackMemberByMemberSpec.pre6 enc Try.prog Try.f5 Rows.fnObjectReadsBackMemberByMemberRow.domain false) (Rows.fnObjectReadsBackMemberByMemberSpec.post enc Try.prog Try.f5 false true false false) := by
  refine returnsInHanded_of_change (C := Try.checked) own started (by kernel_rfl) Try.func5
    (ChangeSpec.witness6 (enc := enc) (C := Try.checked) false ⟨#[], #[.slice none 0 0, .slice none 0 0], []⟩ 8 (by kernel_rfl) (by kernel_rfl) (by kernel_rfl) (by kernel_rfl)) ?_
  intro W base args ds gs before hval0 hW hcnd _
  have hval : ∀ (j : Nat) t v, Try.f5.params[j]? = some t → args[j]? = some v → Value.okWide Try.prog W .any base t v := hval0
  have hW' := hW
  obtain ⟨p, q, hA0, hV, rfl, hfz, hnd⟩ := hW
  have hA : DataW.TrodAll enc Try.prog W 0 (fun _ => true) true Try.f5.params.toList args.toList ds p := hA0
  rw [Try.params5] at hA hval
  obtain ⟨v0, vs0, d0, ds0, p0, q0, hargs, rfl, rfl, h0, r0⟩ := trodAll_cons hA
  obtain ⟨v1, vs1, d1, ds1, p1, q1, rfl, rfl, rfl, h1, r1⟩ := trodAll_cons r0
  obtain ⟨rfl, rfl, rfl⟩ := trodAll_nil r1
  obtain rfl : args = #[v0, v1] := by cases args; simp_all
  obtain ⟨rfl, rfl⟩ := trodVars_none hV
  obtain ⟨a0, len0, cap0, rfl⟩ := okWide_slice Try.underlying31 (hval 0 31 v0 rfl rfl)
  have lt0 : ∀ x ∈ p0, x.block < W.heap.size := by obtain ⟨m, hm⟩ := h0; exact DataW.trod_lt m _ _ _ hm
  obtain ⟨ns, hr0, hn0⟩ := rdS_open h0
  obtain ⟨a1, len1, cap1, rfl⟩ := okWide_slice Try.underlying31 (hval 1 31 v1 rfl rfl)
  have lt1 : ∀ x ∈ p1, x.block < W.heap.size := by obtain ⟨m, hm⟩ := h1; exact DataW.trod_lt m _ _ _ hm
  obtain ⟨vs, hr1, hn1⟩ := rdS_open h1
  clear hA0 hval0
  refine (law5 a0 a1 len0 cap0 len1 cap1 ns vs W hr0 hn0 hr1 hn1).mono fun e W' ⟨he, bel⟩ => ?_
  subst he
  exact ⟨_, rfl, _, _, _, [], _, [], hW', trodAll_mk1 (shut_bool Try.underlying4 _), (trodAll_cons_mk (Below.trod laidOut (by kernel_rfl) (of_decide_eq_true (by kernel_rfl)) h0 bel lt0) (trodAll_cons_mk (Below.trod laidOut (by kernel_rfl) (of_decide_eq_true (by kernel_rfl)) h1 bel lt1) trodAll_mk0)), rfl, bel.frame _, fun h => by cases h⟩

theorem over : Rows.fnObjectReadsBackMemberByMemberRow.holds Try.pinned (OpenSpec.ofChange Rows.fnObjectReadsBackMemberByMemberSpec) :=
  OpenClaim.holds_of_wide 5 Try.f5 rfl rfl rfl rfl rfl rfl rfl ⟨rfl, rfl, rfl, rfl, rfl⟩ rfl rfl rfl rfl rfl (by kernel_rfl) Try.func5 (by kernel_rfl)
    (of_decide_eq_true (by kernel_rfl)) (by unfold Func.isWrapper; first | (rw [if_pos (by decide +kernel)]; kernel_rfl) | (rw [if_neg (by decide +kernel)]; exact ⟨rfl, rfl⟩))
    (fun os started H enc _ => lifted os started H enc)

theorem proved : Rows.FnObjectReadsBackMemberByMemberSaid := over
end Go.Proofs.Qxb6002687a.object
