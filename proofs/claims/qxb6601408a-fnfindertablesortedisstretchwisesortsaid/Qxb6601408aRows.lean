/-
  No cell of these rows narrows 'for every input' (looked for: loops, veiled, ifaces, maps, wideKeys, modest, calm, conditions, laid).
  DERIVED. THE GIVEN ROWS OF THIS SEAT. 4 by the template 'for every input the law returns true; each argument reads behind the call as it read before'; 0 by the template 'total and deterministic' (their statements: Qxb6601408aTotals.lean).
  GIVEN WITH THE SEED: the statements are not yours to turn. If you find one false, say at which input.
  Laid BY PROGRAM, IN A SANDBOX (cutbox-rows.mjs): the forced cells as the released guide's own fill.sh prints them over the translation 0c9b93c820689a68… (all of the seat's roots in one cut). By AI agents, Wed Nov 11 2026. No macro, syntax, notation, axiom, sorry.
-/
import Derived.Test.Qxb6601408aChecked
import GoSem.Claim
import GoSem.ClaimJoined
import GoSem.ClaimMapViews
import Derived.JoinedTies
import Derived.KernelRfl
namespace Go.Proofs.Qxb6601408a
/- THE CELL 'sum', in the pinned program and in every row, IS THE sha256 OF THE DUMP (.gsa) THAT Qxb6601408aProg.lean LOADS. Nothing in Lean hashes anything: it is a label: what it is worth is what the hold of that sum in a sandbox is worth. -/
noncomputable def Try.pinned : Pinned := { name := "qxb6601408a", sum := "0c9b93c820689a68acd74e26a4e7916d55bec224edb0beece3b6327b9b77452d", checked := Try.checked }
namespace Rows
def none {H : Type} : Left H := { results := [], args := [] }

/-- 'zzlaws_root_b1.FnAppendCopyDecodesToOffsetAndLength': WHATEVER THE INPUT: true; the input reads as it did. -/
def fnAppendCopyDecodesToOffsetAndLengthSpec : ChangeSpec := { name := "fnAppendCopyDecodesToOffsetAndLength", fn := fun _ => fun
  | [d1, d2, d3] => { results := [.lit (.bool true)], args := [d1, d2, d3] }
  | _ => none }
def fnAppendCopyDecodesToOffsetAndLengthRow : OpenClaim := { program := "qxb6601408a", sum := "0c9b93c820689a68acd74e26a4e7916d55bec224edb0beece3b6327b9b77452d", func := "example.com/packloom/packloom/zzlaws_root_b1.FnAppendCopyDecodesToOffsetAndLength", spec := "fnAppendCopyDecodesToOffsetAndLength", apart := false }
def FnAppendCopyDecodesToOffsetAndLengthSaid : Prop := fnAppendCopyDecodesToOffsetAndLengthRow.holds Try.pinned (OpenSpec.ofChange fnAppendCopyDecodesToOffsetAndLengthSpec)

/-- ITS FALSE NEIGHBOUR: 'it returns false'. Refute it at one input. -/
def fnAppendCopyDecodesToOffsetAndLengthWrong : ChangeSpec := { name := "fnAppendCopyDecodesToOffsetAndLength", fn := fun _ => fun
  | [d1, d2, d3] => { results := [.lit (.bool false)], args := [d1, d2, d3] }
  | _ => none }
def FnAppendCopyDecodesToOffsetAndLengthWrongFalsely : Prop := fnAppendCopyDecodesToOffsetAndLengthRow.holds Try.pinned (OpenSpec.ofChange fnAppendCopyDecodesToOffsetAndLengthWrong)

/-- 'zzlaws_root_b1.FnAppendCopyStreamSplitsBack': WHATEVER THE INPUT: true; the input reads as it did. -/
def fnAppendCopyStreamSplitsBackSpec : ChangeSpec := { name := "fnAppendCopyStreamSplitsBack", fn := fun _ => fun
  | [d1, d2] => { results := [.lit (.bool true)], args := [d1, d2] }
  | _ => none }
def fnAppendCopyStreamSplitsBackRow : OpenClaim := { program := "qxb6601408a", sum := "0c9b93c820689a68acd74e26a4e7916d55bec224edb0beece3b6327b9b77452d", func := "example.com/packloom/packloom/zzlaws_root_b1.FnAppendCopyStreamSplitsBack", spec := "fnAppendCopyStreamSplitsBack", apart := false }
def FnAppendCopyStreamSplitsBackSaid : Prop := fnAppendCopyStreamSplitsBackRow.holds Try.pinned (OpenSpec.ofChange fnAppendCopyStreamSplitsBackSpec)

/-- ITS FALSE NEIGHBOUR: 'it returns false'. Refute it at one input. -/
def fnAppendCopyStreamSplitsBackWrong : ChangeSpec := { name := "fnAppendCopyStreamSplitsBack", fn := fun _ => fun
  | [d1, d2] => { results := [.lit (.bool false)], args := [d1, d2] }
  | _ => none }
def FnAppendCopyStreamSplitsBackWrongFalsely : Prop := fnAppendCopyStreamSplitsBackRow.holds Try.pinned (OpenSpec.ofChange fnAppendCopyStreamSplitsBackWrong)

/-- 'zzlaws_root_b1.FnFinderTableSortedIsStretchwiseSort': WHATEVER THE INPUT: true; the input reads as it did. -/
def fnFinderTableSortedIsStretchwiseSortSpec : ChangeSpec := { name := "fnFinderTableSortedIsStretchwiseSort", fn := fun _ => fun
  | [d1, d2, d3, d4] => { results := [.lit (.bool true)], args := [d1, d2, d3, d4] }
  | _ => none }
def fnFinderTableSortedIsStretchwiseSortRow : OpenClaim := { program := "qxb6601408a", sum := "0c9b93c820689a68acd74e26a4e7916d55bec224edb0beece3b6327b9b77452d", func := "example.com/packloom/packloom/zzlaws_root_b1.FnFinderTableSortedIsStretchwiseSort", spec := "fnFinderTableSortedIsStretchwiseSort", recurses := true, apart := false }
def FnFinderTableSortedIsStretchwiseSortSaid : Prop := fnFinderTableSortedIsStretchwiseSortRow.holds Try.pinned (OpenSpec.ofChange fnFinderTableSortedIsStretchwiseSortSpec)

/-- ITS FALSE NEIGHBOUR: 'it returns false'. Refute it at one input. -/
def fnFinderTableSortedIsStretchwiseSortWrong : ChangeSpec := { name := "fnFinderTableSortedIsStretchwiseSort", fn := fun _ => fun
  | [d1, d2, d3, d4] => { results := [.lit (.bool false)], args := [d1, d2, d3, d4] }
  | _ => none }
def FnFinderTableSortedIsStretchwiseSortWrongFalsely : Prop := fnFinderTableSortedIsStretchwiseSortRow.holds Try.pinned (OpenSpec.ofChange fnFinderTableSortedIsStretchwiseSortWrong)

/-- 'zzlaws_root_b1.FnFinderTableSortedAscendsWhenFirstBytesMatch': WHATEVER THE INPUT: true; the input reads as it did. -/
def fnFinderTableSortedAscendsWhenFirstBytesMatchSpec : ChangeSpec := { name := "fnFinderTableSortedAscendsWhenFirstBytesMatch", fn := fun _ => fun
  | [d1, d2, d3, d4] => { results := [.lit (.bool true)], args := [d1, d2, d3, d4] }
  | _ => none }
def fnFinderTableSortedAscendsWhenFirstBytesMatchRow : OpenClaim := { program := "qxb6601408a", sum := "0c9b93c820689a68acd74e26a4e7916d55bec224edb0beece3b6327b9b77452d", func := "example.com/packloom/packloom/zzlaws_root_b1.FnFinderTableSortedAscendsWhenFirstBytesMatch", spec := "fnFinderTableSortedAscendsWhenFirstBytesMatch", recurses := true, apart := false }
def FnFinderTableSortedAscendsWhenFirstBytesMatchSaid : Prop := fnFinderTableSortedAscendsWhenFirstBytesMatchRow.holds Try.pinned (OpenSpec.ofChange fnFinderTableSortedAscendsWhenFirstBytesMatchSpec)

/-- ITS FALSE NEIGHBOUR: 'it returns false'. Refute it at one input. -/
def fnFinderTableSortedAscendsWhenFirstBytesMatchWrong : ChangeSpec := { name := "fnFinderTableSortedAscendsWhenFirstBytesMatch", fn := fun _ => fun
  | [d1, d2, d3, d4] => { results := [.lit (.bool false)], args := [d1, d2, d3, d4] }
  | _ => none }
def FnFinderTableSortedAscendsWhenFirstBytesMatchWrongFalsely : Prop := fnFinderTableSortedAscendsWhenFirstBytesMatchRow.holds Try.pinned (OpenSpec.ofChange fnFinderTableSortedAscendsWhenFirstBytesMatchWrong)

end Rows
end Go.Proofs.Qxb6601408a
