/-
  No cell of these rows narrows 'for every input' (looked for: loops, veiled, ifaces, maps, wideKeys, modest, calm, conditions, laid).
  DERIVED. THE GIVEN ROWS OF THIS SEAT. 6 by the template 'for every input the law returns true; each argument reads behind the call as it read before'; 0 by the template 'total and deterministic' (their statements: Qxb6600108aTotals.lean).
  GIVEN WITH THE SEED: the statements are not yours to turn. If you find one false, say at which input.
  Laid BY PROGRAM, IN A SANDBOX (cutbox-rows.mjs): the forced cells as the released guide's own fill.sh prints them over the translation d1549feca8aaa988… (all of the seat's roots in one cut). By AI agents, Wed Nov 11 2026. No macro, syntax, notation, axiom, sorry.
-/
import Derived.Test.Qxb6600108aChecked
import GoSem.Claim
import GoSem.ClaimJoined
import GoSem.ClaimMapViews
import Derived.JoinedTies
import Derived.KernelRfl
namespace Go.Proofs.Qxb6600108a
/- THE CELL 'sum', in the pinned program and in every row, IS THE sha256 OF THE DUMP (.gsa) THAT Qxb6600108aProg.lean LOADS. Nothing in Lean hashes anything: it is a label: what it is worth is what the hold of that sum in a sandbox is worth. -/
noncomputable def Try.pinned : Pinned := { name := "qxb6600108a", sum := "d1549feca8aaa9881501a6460f0958127f0ed56b139f78dd0be8177ee88adf8c", checked := Try.checked }
namespace Rows
def none {H : Type} : Left H := { results := [], args := [] }

/-- 'zzlaws_report_b1.FnAppendIndentedCompactsBack': WHATEVER THE INPUT: true; the input reads as it did. -/
def fnAppendIndentedCompactsBackSpec : ChangeSpec := { name := "fnAppendIndentedCompactsBack", fn := fun _ => fun
  | [d1, d2] => { results := [.lit (.bool true)], args := [d1, d2] }
  | _ => none }
def fnAppendIndentedCompactsBackRow : OpenClaim := { program := "qxb6600108a", sum := "d1549feca8aaa9881501a6460f0958127f0ed56b139f78dd0be8177ee88adf8c", func := "example.com/vestledger/vestledger/zzlaws_report_b1.FnAppendIndentedCompactsBack", spec := "fnAppendIndentedCompactsBack", unfollowed := true, recurses := true, apart := false }
def FnAppendIndentedCompactsBackSaid : Prop := fnAppendIndentedCompactsBackRow.holds Try.pinned (OpenSpec.ofChange fnAppendIndentedCompactsBackSpec)

/-- ITS FALSE NEIGHBOUR: 'it returns false'. Refute it at one input. -/
def fnAppendIndentedCompactsBackWrong : ChangeSpec := { name := "fnAppendIndentedCompactsBack", fn := fun _ => fun
  | [d1, d2] => { results := [.lit (.bool false)], args := [d1, d2] }
  | _ => none }
def FnAppendIndentedCompactsBackWrongFalsely : Prop := fnAppendIndentedCompactsBackRow.holds Try.pinned (OpenSpec.ofChange fnAppendIndentedCompactsBackWrong)

/-- 'zzlaws_report_b1.FnAppendIndentedKeepsDst': WHATEVER THE INPUT: true; the input reads as it did. -/
def fnAppendIndentedKeepsDstSpec : ChangeSpec := { name := "fnAppendIndentedKeepsDst", fn := fun _ => fun
  | [d1, d2, d3] => { results := [.lit (.bool true)], args := [d1, d2, d3] }
  | _ => none }
def fnAppendIndentedKeepsDstRow : OpenClaim := { program := "qxb6600108a", sum := "d1549feca8aaa9881501a6460f0958127f0ed56b139f78dd0be8177ee88adf8c", func := "example.com/vestledger/vestledger/zzlaws_report_b1.FnAppendIndentedKeepsDst", spec := "fnAppendIndentedKeepsDst", unfollowed := true, recurses := true, apart := false }
def FnAppendIndentedKeepsDstSaid : Prop := fnAppendIndentedKeepsDstRow.holds Try.pinned (OpenSpec.ofChange fnAppendIndentedKeepsDstSpec)

/-- ITS FALSE NEIGHBOUR: 'it returns false'. Refute it at one input. -/
def fnAppendIndentedKeepsDstWrong : ChangeSpec := { name := "fnAppendIndentedKeepsDst", fn := fun _ => fun
  | [d1, d2, d3] => { results := [.lit (.bool false)], args := [d1, d2, d3] }
  | _ => none }
def FnAppendIndentedKeepsDstWrongFalsely : Prop := fnAppendIndentedKeepsDstRow.holds Try.pinned (OpenSpec.ofChange fnAppendIndentedKeepsDstWrong)

/-- 'zzlaws_report_b1.FnAppendIndentedPrefixAfterNewlines': WHATEVER THE INPUT: true; the input reads as it did. -/
def fnAppendIndentedPrefixAfterNewlinesSpec : ChangeSpec := { name := "fnAppendIndentedPrefixAfterNewlines", fn := fun _ => fun
  | [d1, d2] => { results := [.lit (.bool true)], args := [d1, d2] }
  | _ => none }
def fnAppendIndentedPrefixAfterNewlinesRow : OpenClaim := { program := "qxb6600108a", sum := "d1549feca8aaa9881501a6460f0958127f0ed56b139f78dd0be8177ee88adf8c", func := "example.com/vestledger/vestledger/zzlaws_report_b1.FnAppendIndentedPrefixAfterNewlines", spec := "fnAppendIndentedPrefixAfterNewlines", unfollowed := true, recurses := true, apart := false }
def FnAppendIndentedPrefixAfterNewlinesSaid : Prop := fnAppendIndentedPrefixAfterNewlinesRow.holds Try.pinned (OpenSpec.ofChange fnAppendIndentedPrefixAfterNewlinesSpec)

/-- ITS FALSE NEIGHBOUR: 'it returns false'. Refute it at one input. -/
def fnAppendIndentedPrefixAfterNewlinesWrong : ChangeSpec := { name := "fnAppendIndentedPrefixAfterNewlines", fn := fun _ => fun
  | [d1, d2] => { results := [.lit (.bool false)], args := [d1, d2] }
  | _ => none }
def FnAppendIndentedPrefixAfterNewlinesWrongFalsely : Prop := fnAppendIndentedPrefixAfterNewlinesRow.holds Try.pinned (OpenSpec.ofChange fnAppendIndentedPrefixAfterNewlinesWrong)

/-- 'zzlaws_report_b1.FnAppendFieldReadsBack': WHATEVER THE INPUT: true; the input reads as it did. -/
def fnAppendFieldReadsBackSpec : ChangeSpec := { name := "fnAppendFieldReadsBack", fn := fun _ => fun
  | [d] => { results := [.lit (.bool true)], args := [d] }
  | _ => none }
def fnAppendFieldReadsBackRow : OpenClaim := { program := "qxb6600108a", sum := "d1549feca8aaa9881501a6460f0958127f0ed56b139f78dd0be8177ee88adf8c", func := "example.com/vestledger/vestledger/zzlaws_report_b1.FnAppendFieldReadsBack", spec := "fnAppendFieldReadsBack", inPlace := ["internal/bytealg.IndexByteString", "internal/bytealg.IndexString"], named := ["internal/bytealg.MaxLen"], apart := false }
def FnAppendFieldReadsBackSaid : Prop := fnAppendFieldReadsBackRow.holds Try.pinned (OpenSpec.ofChange fnAppendFieldReadsBackSpec)

/-- ITS FALSE NEIGHBOUR: 'it returns false'. Refute it at one input. -/
def fnAppendFieldReadsBackWrong : ChangeSpec := { name := "fnAppendFieldReadsBack", fn := fun _ => fun
  | [d] => { results := [.lit (.bool false)], args := [d] }
  | _ => none }
def FnAppendFieldReadsBackWrongFalsely : Prop := fnAppendFieldReadsBackRow.holds Try.pinned (OpenSpec.ofChange fnAppendFieldReadsBackWrong)

/-- 'zzlaws_report_b1.FnAppendFieldRecordReadsBack': WHATEVER THE INPUT: true; the input reads as it did. -/
def fnAppendFieldRecordReadsBackSpec : ChangeSpec := { name := "fnAppendFieldRecordReadsBack", fn := fun _ => fun
  | [d] => { results := [.lit (.bool true)], args := [d] }
  | _ => none }
def fnAppendFieldRecordReadsBackRow : OpenClaim := { program := "qxb6600108a", sum := "d1549feca8aaa9881501a6460f0958127f0ed56b139f78dd0be8177ee88adf8c", func := "example.com/vestledger/vestledger/zzlaws_report_b1.FnAppendFieldRecordReadsBack", spec := "fnAppendFieldRecordReadsBack", inPlace := ["internal/bytealg.IndexByteString", "internal/bytealg.IndexString"], named := ["internal/bytealg.MaxLen"], apart := false }
def FnAppendFieldRecordReadsBackSaid : Prop := fnAppendFieldRecordReadsBackRow.holds Try.pinned (OpenSpec.ofChange fnAppendFieldRecordReadsBackSpec)

/-- ITS FALSE NEIGHBOUR: 'it returns false'. Refute it at one input. -/
def fnAppendFieldRecordReadsBackWrong : ChangeSpec := { name := "fnAppendFieldRecordReadsBack", fn := fun _ => fun
  | [d] => { results := [.lit (.bool false)], args := [d] }
  | _ => none }
def FnAppendFieldRecordReadsBackWrongFalsely : Prop := fnAppendFieldRecordReadsBackRow.holds Try.pinned (OpenSpec.ofChange fnAppendFieldRecordReadsBackWrong)

/-- 'zzlaws_report_b1.FnAppendFieldKeepsDst': WHATEVER THE INPUT: true; the input reads as it did. -/
def fnAppendFieldKeepsDstSpec : ChangeSpec := { name := "fnAppendFieldKeepsDst", fn := fun _ => fun
  | [d1, d2] => { results := [.lit (.bool true)], args := [d1, d2] }
  | _ => none }
def fnAppendFieldKeepsDstRow : OpenClaim := { program := "qxb6600108a", sum := "d1549feca8aaa9881501a6460f0958127f0ed56b139f78dd0be8177ee88adf8c", func := "example.com/vestledger/vestledger/zzlaws_report_b1.FnAppendFieldKeepsDst", spec := "fnAppendFieldKeepsDst", inPlace := ["internal/bytealg.IndexByteString", "internal/bytealg.IndexString"], named := ["internal/bytealg.MaxLen"], apart := false }
def FnAppendFieldKeepsDstSaid : Prop := fnAppendFieldKeepsDstRow.holds Try.pinned (OpenSpec.ofChange fnAppendFieldKeepsDstSpec)

/-- ITS FALSE NEIGHBOUR: 'it returns false'. Refute it at one input. -/
def fnAppendFieldKeepsDstWrong : ChangeSpec := { name := "fnAppendFieldKeepsDst", fn := fun _ => fun
  | [d1, d2] => { results := [.lit (.bool false)], args := [d1, d2] }
  | _ => none }
def FnAppendFieldKeepsDstWrongFalsely : Prop := fnAppendFieldKeepsDstRow.holds Try.pinned (OpenSpec.ofChange fnAppendFieldKeepsDstWrong)

end Rows
end Go.Proofs.Qxb6600108a
