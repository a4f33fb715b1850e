/-
  No cell of these rows narrows 'for every input' (looked for: loops, veiled, ifaces, maps, wideKeys, modest, calm, conditions, laid).
  DERIVED. THE GIVEN ROWS OF THIS SEAT. 6 by the template 'for every input the law returns true; each argument reads behind the call as it read before'; 0 by the template 'total and deterministic' (their statements: Qxb6601508aTotals.lean).
  GIVEN WITH THE SEED: the statements are not yours to turn. If you find one false, say at which input.
  Laid BY PROGRAM, IN A SANDBOX (cutbox-rows.mjs): the forced cells as the released guide's own fill.sh prints them over the translation cdea94e73ff18037… (all of the seat's roots in one cut). By AI agents, Wed Nov 11 2026. No macro, syntax, notation, axiom, sorry.
-/
import Derived.Test.Qxb6601508aChecked
import GoSem.Claim
import GoSem.ClaimJoined
import GoSem.ClaimMapViews
import Derived.JoinedTies
import Derived.KernelRfl
namespace Go.Proofs.Qxb6601508a
/- THE CELL 'sum', in the pinned program and in every row, IS THE sha256 OF THE DUMP (.gsa) THAT Qxb6601508aProg.lean LOADS. Nothing in Lean hashes anything: it is a label: what it is worth is what the hold of that sum in a sandbox is worth. -/
noncomputable def Try.pinned : Pinned := { name := "qxb6601508a", sum := "cdea94e73ff18037cc915d09da5611ef93aeb75ac43253b73d34a0187c0c1f31", checked := Try.checked }
namespace Rows
def none {H : Type} : Left H := { results := [], args := [] }

/-- 'zzlaws_pkg_engine_b1.FnHoldsAllButMatchesBitScan': WHATEVER THE INPUT: true; the input reads as it did. -/
def fnHoldsAllButMatchesBitScanSpec : ChangeSpec := { name := "fnHoldsAllButMatchesBitScan", fn := fun _ => fun
  | [d1, d2, d3, d4] => { results := [.lit (.bool true)], args := [d1, d2, d3, d4] }
  | _ => none }
def fnHoldsAllButMatchesBitScanRow : OpenClaim := { program := "qxb6601508a", sum := "cdea94e73ff18037cc915d09da5611ef93aeb75ac43253b73d34a0187c0c1f31", func := "example.com/cellscape/cellscape/zzlaws_pkg_engine_b1.FnHoldsAllButMatchesBitScan", spec := "fnHoldsAllButMatchesBitScan", apart := false }
def FnHoldsAllButMatchesBitScanSaid : Prop := fnHoldsAllButMatchesBitScanRow.holds Try.pinned (OpenSpec.ofChange fnHoldsAllButMatchesBitScanSpec)

/-- ITS FALSE NEIGHBOUR: 'it returns false'. Refute it at one input. -/
def fnHoldsAllButMatchesBitScanWrong : ChangeSpec := { name := "fnHoldsAllButMatchesBitScan", fn := fun _ => fun
  | [d1, d2, d3, d4] => { results := [.lit (.bool false)], args := [d1, d2, d3, d4] }
  | _ => none }
def FnHoldsAllButMatchesBitScanWrongFalsely : Prop := fnHoldsAllButMatchesBitScanRow.holds Try.pinned (OpenSpec.ofChange fnHoldsAllButMatchesBitScanWrong)

/-- 'zzlaws_pkg_engine_b1.FnHoldsAllButSplitsAtTheNumberLeftOut': WHATEVER THE INPUT: true; the input reads as it did. -/
def fnHoldsAllButSplitsAtTheNumberLeftOutSpec : ChangeSpec := { name := "fnHoldsAllButSplitsAtTheNumberLeftOut", fn := fun _ => fun
  | [d1, d2, d3, d4] => { results := [.lit (.bool true)], args := [d1, d2, d3, d4] }
  | _ => none }
def fnHoldsAllButSplitsAtTheNumberLeftOutRow : OpenClaim := { program := "qxb6601508a", sum := "cdea94e73ff18037cc915d09da5611ef93aeb75ac43253b73d34a0187c0c1f31", func := "example.com/cellscape/cellscape/zzlaws_pkg_engine_b1.FnHoldsAllButSplitsAtTheNumberLeftOut", spec := "fnHoldsAllButSplitsAtTheNumberLeftOut", apart := false }
def FnHoldsAllButSplitsAtTheNumberLeftOutSaid : Prop := fnHoldsAllButSplitsAtTheNumberLeftOutRow.holds Try.pinned (OpenSpec.ofChange fnHoldsAllButSplitsAtTheNumberLeftOutSpec)

/-- ITS FALSE NEIGHBOUR: 'it returns false'. Refute it at one input. -/
def fnHoldsAllButSplitsAtTheNumberLeftOutWrong : ChangeSpec := { name := "fnHoldsAllButSplitsAtTheNumberLeftOut", fn := fun _ => fun
  | [d1, d2, d3, d4] => { results := [.lit (.bool false)], args := [d1, d2, d3, d4] }
  | _ => none }
def FnHoldsAllButSplitsAtTheNumberLeftOutWrongFalsely : Prop := fnHoldsAllButSplitsAtTheNumberLeftOutRow.holds Try.pinned (OpenSpec.ofChange fnHoldsAllButSplitsAtTheNumberLeftOutWrong)

/-- 'zzlaws_pkg_engine_b1.FnAddRunAddsDToTheRunAlone': WHATEVER THE INPUT: true; the input reads as it did. -/
def fnAddRunAddsDToTheRunAloneSpec : ChangeSpec := { name := "fnAddRunAddsDToTheRunAlone", fn := fun _ => fun
  | [d1, d2, d3, d4, d5, d6, d7] => { results := [.lit (.bool true)], args := [d1, d2, d3, d4, d5, d6, d7] }
  | _ => none }
def fnAddRunAddsDToTheRunAloneRow : OpenClaim := { program := "qxb6601508a", sum := "cdea94e73ff18037cc915d09da5611ef93aeb75ac43253b73d34a0187c0c1f31", func := "example.com/cellscape/cellscape/zzlaws_pkg_engine_b1.FnAddRunAddsDToTheRunAlone", spec := "fnAddRunAddsDToTheRunAlone", apart := false }
def FnAddRunAddsDToTheRunAloneSaid : Prop := fnAddRunAddsDToTheRunAloneRow.holds Try.pinned (OpenSpec.ofChange fnAddRunAddsDToTheRunAloneSpec)

/-- ITS FALSE NEIGHBOUR: 'it returns false'. Refute it at one input. -/
def fnAddRunAddsDToTheRunAloneWrong : ChangeSpec := { name := "fnAddRunAddsDToTheRunAlone", fn := fun _ => fun
  | [d1, d2, d3, d4, d5, d6, d7] => { results := [.lit (.bool false)], args := [d1, d2, d3, d4, d5, d6, d7] }
  | _ => none }
def FnAddRunAddsDToTheRunAloneWrongFalsely : Prop := fnAddRunAddsDToTheRunAloneRow.holds Try.pinned (OpenSpec.ofChange fnAddRunAddsDToTheRunAloneWrong)

/-- 'zzlaws_pkg_engine_b1.FnAddRunKeepsEachNodeTheLeastBelowIt': WHATEVER THE INPUT: true; the input reads as it did. -/
def fnAddRunKeepsEachNodeTheLeastBelowItSpec : ChangeSpec := { name := "fnAddRunKeepsEachNodeTheLeastBelowIt", fn := fun _ => fun
  | [d1, d2, d3, d4, d5, d6, d7] => { results := [.lit (.bool true)], args := [d1, d2, d3, d4, d5, d6, d7] }
  | _ => none }
def fnAddRunKeepsEachNodeTheLeastBelowItRow : OpenClaim := { program := "qxb6601508a", sum := "cdea94e73ff18037cc915d09da5611ef93aeb75ac43253b73d34a0187c0c1f31", func := "example.com/cellscape/cellscape/zzlaws_pkg_engine_b1.FnAddRunKeepsEachNodeTheLeastBelowIt", spec := "fnAddRunKeepsEachNodeTheLeastBelowIt", apart := false }
def FnAddRunKeepsEachNodeTheLeastBelowItSaid : Prop := fnAddRunKeepsEachNodeTheLeastBelowItRow.holds Try.pinned (OpenSpec.ofChange fnAddRunKeepsEachNodeTheLeastBelowItSpec)

/-- ITS FALSE NEIGHBOUR: 'it returns false'. Refute it at one input. -/
def fnAddRunKeepsEachNodeTheLeastBelowItWrong : ChangeSpec := { name := "fnAddRunKeepsEachNodeTheLeastBelowIt", fn := fun _ => fun
  | [d1, d2, d3, d4, d5, d6, d7] => { results := [.lit (.bool false)], args := [d1, d2, d3, d4, d5, d6, d7] }
  | _ => none }
def FnAddRunKeepsEachNodeTheLeastBelowItWrongFalsely : Prop := fnAddRunKeepsEachNodeTheLeastBelowItRow.holds Try.pinned (OpenSpec.ofChange fnAddRunKeepsEachNodeTheLeastBelowItWrong)

/-- 'zzlaws_pkg_engine_b1.FnFirstAtFindsTheEndSlotAtMostX': WHATEVER THE INPUT: true; the input reads as it did. -/
def fnFirstAtFindsTheEndSlotAtMostXSpec : ChangeSpec := { name := "fnFirstAtFindsTheEndSlotAtMostX", fn := fun _ => fun
  | [d1, d2, d3, d4, d5, d6, d7, d8, d9, d10, d11] => { results := [.lit (.bool true)], args := [d1, d2, d3, d4, d5, d6, d7, d8, d9, d10, d11] }
  | _ => none }
def fnFirstAtFindsTheEndSlotAtMostXRow : OpenClaim := { program := "qxb6601508a", sum := "cdea94e73ff18037cc915d09da5611ef93aeb75ac43253b73d34a0187c0c1f31", func := "example.com/cellscape/cellscape/zzlaws_pkg_engine_b1.FnFirstAtFindsTheEndSlotAtMostX", spec := "fnFirstAtFindsTheEndSlotAtMostX", recurses := true, apart := false }
def FnFirstAtFindsTheEndSlotAtMostXSaid : Prop := fnFirstAtFindsTheEndSlotAtMostXRow.holds Try.pinned (OpenSpec.ofChange fnFirstAtFindsTheEndSlotAtMostXSpec)

/-- ITS FALSE NEIGHBOUR: 'it returns false'. Refute it at one input. -/
def fnFirstAtFindsTheEndSlotAtMostXWrong : ChangeSpec := { name := "fnFirstAtFindsTheEndSlotAtMostX", fn := fun _ => fun
  | [d1, d2, d3, d4, d5, d6, d7, d8, d9, d10, d11] => { results := [.lit (.bool false)], args := [d1, d2, d3, d4, d5, d6, d7, d8, d9, d10, d11] }
  | _ => none }
def FnFirstAtFindsTheEndSlotAtMostXWrongFalsely : Prop := fnFirstAtFindsTheEndSlotAtMostXRow.holds Try.pinned (OpenSpec.ofChange fnFirstAtFindsTheEndSlotAtMostXWrong)

/-- 'zzlaws_pkg_engine_b1.FnAddRunThenFirstAtAgreeWithAPlainList': WHATEVER THE INPUT: true; the input reads as it did. -/
def fnAddRunThenFirstAtAgreeWithAPlainListSpec : ChangeSpec := { name := "fnAddRunThenFirstAtAgreeWithAPlainList", fn := fun _ => fun
  | [d1, d2, d3, d4, d5, d6, d7, d8] => { results := [.lit (.bool true)], args := [d1, d2, d3, d4, d5, d6, d7, d8] }
  | _ => none }
def fnAddRunThenFirstAtAgreeWithAPlainListRow : OpenClaim := { program := "qxb6601508a", sum := "cdea94e73ff18037cc915d09da5611ef93aeb75ac43253b73d34a0187c0c1f31", func := "example.com/cellscape/cellscape/zzlaws_pkg_engine_b1.FnAddRunThenFirstAtAgreeWithAPlainList", spec := "fnAddRunThenFirstAtAgreeWithAPlainList", recurses := true, apart := false }
def FnAddRunThenFirstAtAgreeWithAPlainListSaid : Prop := fnAddRunThenFirstAtAgreeWithAPlainListRow.holds Try.pinned (OpenSpec.ofChange fnAddRunThenFirstAtAgreeWithAPlainListSpec)

/-- ITS FALSE NEIGHBOUR: 'it returns false'. Refute it at one input. -/
def fnAddRunThenFirstAtAgreeWithAPlainListWrong : ChangeSpec := { name := "fnAddRunThenFirstAtAgreeWithAPlainList", fn := fun _ => fun
  | [d1, d2, d3, d4, d5, d6, d7, d8] => { results := [.lit (.bool false)], args := [d1, d2, d3, d4, d5, d6, d7, d8] }
  | _ => none }
def FnAddRunThenFirstAtAgreeWithAPlainListWrongFalsely : Prop := fnAddRunThenFirstAtAgreeWithAPlainListRow.holds Try.pinned (OpenSpec.ofChange fnAddRunThenFirstAtAgreeWithAPlainListWrong)

end Rows
end Go.Proofs.Qxb6601508a
