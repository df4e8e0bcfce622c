/-
  No cell of these rows narrows 'for every input' (looked for: loops, veiled, ifaces, maps, wideKeys, modest, calm, conditions, laid).
  DERIVED. THE GIVEN ROWS OF THIS SEAT. 5 by the template 'for every input the law returns true; each argument reads behind the call as it read before'; 0 by the template 'total and deterministic' (their statements: Qxb6002687aTotals.lean).
  GIVEN WITH THE SEED: the statements are not yours to turn. If you find one false, say at which input.
  Laid BY PROGRAM, IN A SANDBOX (cutbox-rows.mjs): the forced cells as the released guide's own fill.sh prints them over the translation db8e575dc97dba4f… (all of the seat's roots in one cut). By AI agents, Wed Nov 11 2026. No macro, syntax, notation, axiom, sorry.
-/
import Derived.Test.Qxb6002687aChecked
import GoSem.Claim
import GoSem.ClaimJoined
import GoSem.ClaimMapViews
import Derived.JoinedTies
import Derived.KernelRfl
namespace Go.Proofs.Qxb6002687a
/- THE CELL 'sum', in the pinned program and in every row, IS THE sha256 OF THE DUMP (.gsa) THAT Qxb6002687aProg.lean LOADS. Nothing in Lean hashes anything: it is a label: what it is worth is what the hold of that sum in a sandbox is worth. -/
noncomputable def Try.pinned : Pinned := { name := "qxb6002687a", sum := "db8e575dc97dba4f67298e19d1d84fb2a8c70f8d9d3330f3fc4bdf361a53a323", checked := Try.checked }
namespace Rows
def none {H : Type} : Left H := { results := [], args := [] }

/-- 'zzlaws_gemini_b1.FnValueReadsOneScalarToken': WHATEVER THE INPUT: true; the input reads as it did. -/
def fnValueReadsOneScalarTokenSpec : ChangeSpec := { name := "fnValueReadsOneScalarToken", fn := fun _ => fun
  | [d1, d2, d3, d4, d5, d6] => { results := [.lit (.bool true)], args := [d1, d2, d3, d4, d5, d6] }
  | _ => none }
def fnValueReadsOneScalarTokenRow : OpenClaim := { program := "qxb6002687a", sum := "db8e575dc97dba4f67298e19d1d84fb2a8c70f8d9d3330f3fc4bdf361a53a323", func := "example.com/turnloop/turnloop/zzlaws_gemini_b1.FnValueReadsOneScalarToken", spec := "fnValueReadsOneScalarToken", inPlace := ["internal/bytealg.IndexByteString"], apart := false }
def FnValueReadsOneScalarTokenSaid : Prop := fnValueReadsOneScalarTokenRow.holds Try.pinned (OpenSpec.ofChange fnValueReadsOneScalarTokenSpec)

/-- ITS FALSE NEIGHBOUR: 'it returns false'. Refute it at one input. -/
def fnValueReadsOneScalarTokenWrong : ChangeSpec := { name := "fnValueReadsOneScalarToken", fn := fun _ => fun
  | [d1, d2, d3, d4, d5, d6] => { results := [.lit (.bool false)], args := [d1, d2, d3, d4, d5, d6] }
  | _ => none }
def FnValueReadsOneScalarTokenWrongFalsely : Prop := fnValueReadsOneScalarTokenRow.holds Try.pinned (OpenSpec.ofChange fnValueReadsOneScalarTokenWrong)

/-- 'zzlaws_gemini_b1.FnValueReadsNestedValueWhole': WHATEVER THE INPUT: true; the input reads as it did. -/
def fnValueReadsNestedValueWholeSpec : ChangeSpec := { name := "fnValueReadsNestedValueWhole", fn := fun _ => fun
  | [d1, d2, d3, d4] => { results := [.lit (.bool true)], args := [d1, d2, d3, d4] }
  | _ => none }
def fnValueReadsNestedValueWholeRow : OpenClaim := { program := "qxb6002687a", sum := "db8e575dc97dba4f67298e19d1d84fb2a8c70f8d9d3330f3fc4bdf361a53a323", func := "example.com/turnloop/turnloop/zzlaws_gemini_b1.FnValueReadsNestedValueWhole", spec := "fnValueReadsNestedValueWhole", inPlace := ["internal/bytealg.IndexByteString"], apart := false }
def FnValueReadsNestedValueWholeSaid : Prop := fnValueReadsNestedValueWholeRow.holds Try.pinned (OpenSpec.ofChange fnValueReadsNestedValueWholeSpec)

/-- ITS FALSE NEIGHBOUR: 'it returns false'. Refute it at one input. -/
def fnValueReadsNestedValueWholeWrong : ChangeSpec := { name := "fnValueReadsNestedValueWhole", fn := fun _ => fun
  | [d1, d2, d3, d4] => { results := [.lit (.bool false)], args := [d1, d2, d3, d4] }
  | _ => none }
def FnValueReadsNestedValueWholeWrongFalsely : Prop := fnValueReadsNestedValueWholeRow.holds Try.pinned (OpenSpec.ofChange fnValueReadsNestedValueWholeWrong)

/-- 'zzlaws_gemini_b1.FnObjectReadsBackMemberByMember': WHATEVER THE INPUT: true; the input reads as it did. -/
def fnObjectReadsBackMemberByMemberSpec : ChangeSpec := { name := "fnObjectReadsBackMemberByMember", fn := fun _ => fun
  | [d1, d2] => { results := [.lit (.bool true)], args := [d1, d2] }
  | _ => none }
def fnObjectReadsBackMemberByMemberRow : OpenClaim := { program := "qxb6002687a", sum := "db8e575dc97dba4f67298e19d1d84fb2a8c70f8d9d3330f3fc4bdf361a53a323", func := "example.com/turnloop/turnloop/zzlaws_gemini_b1.FnObjectReadsBackMemberByMember", spec := "fnObjectReadsBackMemberByMember", inPlace := ["internal/bytealg.IndexByteString"], apart := false }
def FnObjectReadsBackMemberByMemberSaid : Prop := fnObjectReadsBackMemberByMemberRow.holds Try.pinned (OpenSpec.ofChange fnObjectReadsBackMemberByMemberSpec)

/-- ITS FALSE NEIGHBOUR: 'it returns false'. Refute it at one input. -/
def fnObjectReadsBackMemberByMemberWrong : ChangeSpec := { name := "fnObjectReadsBackMemberByMember", fn := fun _ => fun
  | [d1, d2] => { results := [.lit (.bool false)], args := [d1, d2] }
  | _ => none }
def FnObjectReadsBackMemberByMemberWrongFalsely : Prop := fnObjectReadsBackMemberByMemberRow.holds Try.pinned (OpenSpec.ofChange fnObjectReadsBackMemberByMemberWrong)

/-- 'zzlaws_gemini_b1.FnObjectSplitsAtAnyMember': WHATEVER THE INPUT: true; the input reads as it did. -/
def fnObjectSplitsAtAnyMemberSpec : ChangeSpec := { name := "fnObjectSplitsAtAnyMember", fn := fun _ => fun
  | [d1, d2, d3] => { results := [.lit (.bool true)], args := [d1, d2, d3] }
  | _ => none }
def fnObjectSplitsAtAnyMemberRow : OpenClaim := { program := "qxb6002687a", sum := "db8e575dc97dba4f67298e19d1d84fb2a8c70f8d9d3330f3fc4bdf361a53a323", func := "example.com/turnloop/turnloop/zzlaws_gemini_b1.FnObjectSplitsAtAnyMember", spec := "fnObjectSplitsAtAnyMember", apart := false }
def FnObjectSplitsAtAnyMemberSaid : Prop := fnObjectSplitsAtAnyMemberRow.holds Try.pinned (OpenSpec.ofChange fnObjectSplitsAtAnyMemberSpec)

/-- ITS FALSE NEIGHBOUR: 'it returns false'. Refute it at one input. -/
def fnObjectSplitsAtAnyMemberWrong : ChangeSpec := { name := "fnObjectSplitsAtAnyMember", fn := fun _ => fun
  | [d1, d2, d3] => { results := [.lit (.bool false)], args := [d1, d2, d3] }
  | _ => none }
def FnObjectSplitsAtAnyMemberWrongFalsely : Prop := fnObjectSplitsAtAnyMemberRow.holds Try.pinned (OpenSpec.ofChange fnObjectSplitsAtAnyMemberWrong)

/-- 'zzlaws_gemini_b1.FnSkipStringEndsAfterClosingQuote': WHATEVER THE INPUT: true; the input reads as it did. -/
def fnSkipStringEndsAfterClosingQuoteSpec : ChangeSpec := { name := "fnSkipStringEndsAfterClosingQuote", fn := fun _ => fun
  | [d1, d2, d3] => { results := [.lit (.bool true)], args := [d1, d2, d3] }
  | _ => none }
def fnSkipStringEndsAfterClosingQuoteRow : OpenClaim := { program := "qxb6002687a", sum := "db8e575dc97dba4f67298e19d1d84fb2a8c70f8d9d3330f3fc4bdf361a53a323", func := "example.com/turnloop/turnloop/zzlaws_gemini_b1.FnSkipStringEndsAfterClosingQuote", spec := "fnSkipStringEndsAfterClosingQuote", apart := false }
def FnSkipStringEndsAfterClosingQuoteSaid : Prop := fnSkipStringEndsAfterClosingQuoteRow.holds Try.pinned (OpenSpec.ofChange fnSkipStringEndsAfterClosingQuoteSpec)

/-- ITS FALSE NEIGHBOUR: 'it returns false'. Refute it at one input. -/
def fnSkipStringEndsAfterClosingQuoteWrong : ChangeSpec := { name := "fnSkipStringEndsAfterClosingQuote", fn := fun _ => fun
  | [d1, d2, d3] => { results := [.lit (.bool false)], args := [d1, d2, d3] }
  | _ => none }
def FnSkipStringEndsAfterClosingQuoteWrongFalsely : Prop := fnSkipStringEndsAfterClosingQuoteRow.holds Try.pinned (OpenSpec.ofChange fnSkipStringEndsAfterClosingQuoteWrong)

end Rows
end Go.Proofs.Qxb6002687a
