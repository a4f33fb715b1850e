/-
  NARROWER THAN 'FOR EVERY INPUT', by the rows' own cells (each row's printed sentence says how): FnNonStringIsLeastBadKey: maps · FnNonStringNullingAKeyGivesTheLesser: maps.
  DERIVED. THE GIVEN ROWS OF THIS SEAT. 6 by the template 'for every input the law returns true; each argument reads behind the call as it read before'; 0 by the template 'total and deterministic' (their statements: Qxb6601681aTotals.lean).
  GIVEN WITH THE SEED: the statements are not yours to turn. If you find one false, say at which input.
  Laid BY PROGRAM, IN A SANDBOX (cutbox-rows.mjs): the forced cells as the released guide's own fill.sh prints them over the translation 59b5acff7e81db72… (all of the seat's roots in one cut). By AI agents, Wed Nov 11 2026. No macro, syntax, notation, axiom, sorry.
-/
import Derived.Test.Qxb6601681aChecked
import GoSem.Claim
import GoSem.ClaimJoined
import GoSem.ClaimMapViews
import Derived.JoinedTies
import Derived.KernelRfl
namespace Go.Proofs.Qxb6601681a
/- THE CELL 'sum', in the pinned program and in every row, IS THE sha256 OF THE DUMP (.gsa) THAT Qxb6601681aProg.lean LOADS. Nothing in Lean hashes anything: it is a label: what it is worth is what the hold of that sum in a sandbox is worth. -/
noncomputable def Try.pinned : Pinned := { name := "qxb6601681a", sum := "59b5acff7e81db72fee4a3ff9cfe58abd5cdfbd00004dcb883f79d975f2f127d", checked := Try.checked }
namespace Rows
def none {H : Type} : Left H := { results := [], args := [] }

/-- 'zzlaws_internal_register_b1.FnPassStringMatchesModel': WHATEVER THE INPUT: true; the input reads as it did. -/
def fnPassStringMatchesModelSpec : ChangeSpec := { name := "fnPassStringMatchesModel", fn := fun _ => fun
  | [d1, d2] => { results := [.lit (.bool true)], args := [d1, d2] }
  | _ => none }
def fnPassStringMatchesModelRow : OpenClaim := { program := "qxb6601681a", sum := "59b5acff7e81db72fee4a3ff9cfe58abd5cdfbd00004dcb883f79d975f2f127d", func := "example.com/kinledger/kinledger/zzlaws_internal_register_b1.FnPassStringMatchesModel", spec := "fnPassStringMatchesModel", apart := false }
def FnPassStringMatchesModelSaid : Prop := fnPassStringMatchesModelRow.holds Try.pinned (OpenSpec.ofChange fnPassStringMatchesModelSpec)

/-- ITS FALSE NEIGHBOUR: 'it returns false'. Refute it at one input. -/
def fnPassStringMatchesModelWrong : ChangeSpec := { name := "fnPassStringMatchesModel", fn := fun _ => fun
  | [d1, d2] => { results := [.lit (.bool false)], args := [d1, d2] }
  | _ => none }
def FnPassStringMatchesModelWrongFalsely : Prop := fnPassStringMatchesModelRow.holds Try.pinned (OpenSpec.ofChange fnPassStringMatchesModelWrong)

/-- 'zzlaws_internal_register_b1.FnPassStringReadsOnlyItsString': WHATEVER THE INPUT: true; the input reads as it did. -/
def fnPassStringReadsOnlyItsStringSpec : ChangeSpec := { name := "fnPassStringReadsOnlyItsString", fn := fun _ => fun
  | [d1, d2, d3] => { results := [.lit (.bool true)], args := [d1, d2, d3] }
  | _ => none }
def fnPassStringReadsOnlyItsStringRow : OpenClaim := { program := "qxb6601681a", sum := "59b5acff7e81db72fee4a3ff9cfe58abd5cdfbd00004dcb883f79d975f2f127d", func := "example.com/kinledger/kinledger/zzlaws_internal_register_b1.FnPassStringReadsOnlyItsString", spec := "fnPassStringReadsOnlyItsString", apart := false }
def FnPassStringReadsOnlyItsStringSaid : Prop := fnPassStringReadsOnlyItsStringRow.holds Try.pinned (OpenSpec.ofChange fnPassStringReadsOnlyItsStringSpec)

/-- ITS FALSE NEIGHBOUR: 'it returns false'. Refute it at one input. -/
def fnPassStringReadsOnlyItsStringWrong : ChangeSpec := { name := "fnPassStringReadsOnlyItsString", fn := fun _ => fun
  | [d1, d2, d3] => { results := [.lit (.bool false)], args := [d1, d2, d3] }
  | _ => none }
def FnPassStringReadsOnlyItsStringWrongFalsely : Prop := fnPassStringReadsOnlyItsStringRow.holds Try.pinned (OpenSpec.ofChange fnPassStringReadsOnlyItsStringWrong)

/-- 'zzlaws_internal_register_b1.FnSkipMatchesModel': WHATEVER THE INPUT: true; the input reads as it did. -/
def fnSkipMatchesModelSpec : ChangeSpec := { name := "fnSkipMatchesModel", fn := fun _ => fun
  | [d1, d2] => { results := [.lit (.bool true)], args := [d1, d2] }
  | _ => none }
def fnSkipMatchesModelRow : OpenClaim := { program := "qxb6601681a", sum := "59b5acff7e81db72fee4a3ff9cfe58abd5cdfbd00004dcb883f79d975f2f127d", func := "example.com/kinledger/kinledger/zzlaws_internal_register_b1.FnSkipMatchesModel", spec := "fnSkipMatchesModel", apart := false }
def FnSkipMatchesModelSaid : Prop := fnSkipMatchesModelRow.holds Try.pinned (OpenSpec.ofChange fnSkipMatchesModelSpec)

/-- ITS FALSE NEIGHBOUR: 'it returns false'. Refute it at one input. -/
def fnSkipMatchesModelWrong : ChangeSpec := { name := "fnSkipMatchesModel", fn := fun _ => fun
  | [d1, d2] => { results := [.lit (.bool false)], args := [d1, d2] }
  | _ => none }
def FnSkipMatchesModelWrongFalsely : Prop := fnSkipMatchesModelRow.holds Try.pinned (OpenSpec.ofChange fnSkipMatchesModelWrong)

/-- 'zzlaws_internal_register_b1.FnSkipReadsOnlyItsValue': WHATEVER THE INPUT: true; the input reads as it did. -/
def fnSkipReadsOnlyItsValueSpec : ChangeSpec := { name := "fnSkipReadsOnlyItsValue", fn := fun _ => fun
  | [d1, d2, d3] => { results := [.lit (.bool true)], args := [d1, d2, d3] }
  | _ => none }
def fnSkipReadsOnlyItsValueRow : OpenClaim := { program := "qxb6601681a", sum := "59b5acff7e81db72fee4a3ff9cfe58abd5cdfbd00004dcb883f79d975f2f127d", func := "example.com/kinledger/kinledger/zzlaws_internal_register_b1.FnSkipReadsOnlyItsValue", spec := "fnSkipReadsOnlyItsValue", apart := false }
def FnSkipReadsOnlyItsValueSaid : Prop := fnSkipReadsOnlyItsValueRow.holds Try.pinned (OpenSpec.ofChange fnSkipReadsOnlyItsValueSpec)

/-- ITS FALSE NEIGHBOUR: 'it returns false'. Refute it at one input. -/
def fnSkipReadsOnlyItsValueWrong : ChangeSpec := { name := "fnSkipReadsOnlyItsValue", fn := fun _ => fun
  | [d1, d2, d3] => { results := [.lit (.bool false)], args := [d1, d2, d3] }
  | _ => none }
def FnSkipReadsOnlyItsValueWrongFalsely : Prop := fnSkipReadsOnlyItsValueRow.holds Try.pinned (OpenSpec.ofChange fnSkipReadsOnlyItsValueWrong)

/-- 'zzlaws_internal_register_b1.FnNonStringIsLeastBadKey': WHATEVER THE INPUT: true; the input reads as it did. -/
def fnNonStringIsLeastBadKeySpec : ChangeSpec := { name := "fnNonStringIsLeastBadKey", fn := fun _ => fun
  | [d1, d2] => { results := [.lit (.bool true)], args := [d1, d2] }
  | _ => none }
def fnNonStringIsLeastBadKeyRow : OpenClaim := { program := "qxb6601681a", sum := "59b5acff7e81db72fee4a3ff9cfe58abd5cdfbd00004dcb883f79d975f2f127d", func := "example.com/kinledger/kinledger/zzlaws_internal_register_b1.FnNonStringIsLeastBadKey", spec := "fnNonStringIsLeastBadKey", maps := true, apart := false }
def FnNonStringIsLeastBadKeySaid : Prop := fnNonStringIsLeastBadKeyRow.holds Try.pinned (OpenSpec.ofChange fnNonStringIsLeastBadKeySpec)

/-- ITS FALSE NEIGHBOUR: 'it returns false'. Refute it at one input. -/
def fnNonStringIsLeastBadKeyWrong : ChangeSpec := { name := "fnNonStringIsLeastBadKey", fn := fun _ => fun
  | [d1, d2] => { results := [.lit (.bool false)], args := [d1, d2] }
  | _ => none }
def FnNonStringIsLeastBadKeyWrongFalsely : Prop := fnNonStringIsLeastBadKeyRow.holds Try.pinned (OpenSpec.ofChange fnNonStringIsLeastBadKeyWrong)

/-- 'zzlaws_internal_register_b1.FnNonStringNullingAKeyGivesTheLesser': WHATEVER THE INPUT: true; the input reads as it did. -/
def fnNonStringNullingAKeyGivesTheLesserSpec : ChangeSpec := { name := "fnNonStringNullingAKeyGivesTheLesser", fn := fun _ => fun
  | [d1, d2, d3] => { results := [.lit (.bool true)], args := [d1, d2, d3] }
  | _ => none }
def fnNonStringNullingAKeyGivesTheLesserRow : OpenClaim := { program := "qxb6601681a", sum := "59b5acff7e81db72fee4a3ff9cfe58abd5cdfbd00004dcb883f79d975f2f127d", func := "example.com/kinledger/kinledger/zzlaws_internal_register_b1.FnNonStringNullingAKeyGivesTheLesser", spec := "fnNonStringNullingAKeyGivesTheLesser", maps := true, apart := false }
def FnNonStringNullingAKeyGivesTheLesserSaid : Prop := fnNonStringNullingAKeyGivesTheLesserRow.holds Try.pinned (OpenSpec.ofChange fnNonStringNullingAKeyGivesTheLesserSpec)

/-- ITS FALSE NEIGHBOUR: 'it returns false'. Refute it at one input. -/
def fnNonStringNullingAKeyGivesTheLesserWrong : ChangeSpec := { name := "fnNonStringNullingAKeyGivesTheLesser", fn := fun _ => fun
  | [d1, d2, d3] => { results := [.lit (.bool false)], args := [d1, d2, d3] }
  | _ => none }
def FnNonStringNullingAKeyGivesTheLesserWrongFalsely : Prop := fnNonStringNullingAKeyGivesTheLesserRow.holds Try.pinned (OpenSpec.ofChange fnNonStringNullingAKeyGivesTheLesserWrong)

end Rows
end Go.Proofs.Qxb6601681a
