/-
  No cell of these rows narrows 'for every input' (looked for: loops, veiled, ifaces, maps, wideKeys, modest, calm, conditions, laid).
  DERIVED. THE GIVEN ROWS OF THIS SEAT. 3 by the template 'for every input the law returns true; each argument reads behind the call as it read before'; 0 by the template 'total and deterministic' (their statements: Qxb6601561aTotals.lean).
  GIVEN WITH THE SEED: the statements are not yours to turn. If you find one false, say at which input.
  Laid BY PROGRAM, IN A SANDBOX (cutbox-rows.mjs): the forced cells as the released guide's own fill.sh prints them over the translation 30b0943e8c2db8f3… (all of the seat's roots in one cut). By AI agents, Wed Nov 11 2026. No macro, syntax, notation, axiom, sorry.
-/
import Derived.Test.Qxb6601561aChecked
import GoSem.Claim
import GoSem.ClaimJoined
import GoSem.ClaimMapViews
import Derived.JoinedTies
import Derived.KernelRfl
namespace Go.Proofs.Qxb6601561a
/- THE CELL 'sum', in the pinned program and in every row, IS THE sha256 OF THE DUMP (.gsa) THAT Qxb6601561aProg.lean LOADS. Nothing in Lean hashes anything: it is a label: what it is worth is what the hold of that sum in a sandbox is worth. -/
noncomputable def Try.pinned : Pinned := { name := "qxb6601561a", sum := "30b0943e8c2db8f335907f274ecdc4f75fee0a31e252bda5e5ae3f9956b2dab3", checked := Try.checked }
namespace Rows
def none {H : Type} : Left H := { results := [], args := [] }

/-- 'zzlaws_root_b1.FnTagLengthIsTheOneTagPrefix': WHATEVER THE INPUT: true; the input reads as it did. -/
def fnTagLengthIsTheOneTagPrefixSpec : ChangeSpec := { name := "fnTagLengthIsTheOneTagPrefix", fn := fun _ => fun
  | [d] => { results := [.lit (.bool true)], args := [d] }
  | _ => none }
def fnTagLengthIsTheOneTagPrefixRow : OpenClaim := { program := "qxb6601561a", sum := "30b0943e8c2db8f335907f274ecdc4f75fee0a31e252bda5e5ae3f9956b2dab3", func := "example.com/envelope/envelope/zzlaws_root_b1.FnTagLengthIsTheOneTagPrefix", spec := "fnTagLengthIsTheOneTagPrefix", apart := false }
def FnTagLengthIsTheOneTagPrefixSaid : Prop := fnTagLengthIsTheOneTagPrefixRow.holds Try.pinned (OpenSpec.ofChange fnTagLengthIsTheOneTagPrefixSpec)

/-- ITS FALSE NEIGHBOUR: 'it returns false'. Refute it at one input. -/
def fnTagLengthIsTheOneTagPrefixWrong : ChangeSpec := { name := "fnTagLengthIsTheOneTagPrefix", fn := fun _ => fun
  | [d] => { results := [.lit (.bool false)], args := [d] }
  | _ => none }
def FnTagLengthIsTheOneTagPrefixWrongFalsely : Prop := fnTagLengthIsTheOneTagPrefixRow.holds Try.pinned (OpenSpec.ofChange fnTagLengthIsTheOneTagPrefixWrong)

/-- 'zzlaws_root_b1.FnTagLengthIgnoresWhatFollows': WHATEVER THE INPUT: true; the input reads as it did. -/
def fnTagLengthIgnoresWhatFollowsSpec : ChangeSpec := { name := "fnTagLengthIgnoresWhatFollows", fn := fun _ => fun
  | [d1, d2] => { results := [.lit (.bool true)], args := [d1, d2] }
  | _ => none }
def fnTagLengthIgnoresWhatFollowsRow : OpenClaim := { program := "qxb6601561a", sum := "30b0943e8c2db8f335907f274ecdc4f75fee0a31e252bda5e5ae3f9956b2dab3", func := "example.com/envelope/envelope/zzlaws_root_b1.FnTagLengthIgnoresWhatFollows", spec := "fnTagLengthIgnoresWhatFollows", apart := false }
def FnTagLengthIgnoresWhatFollowsSaid : Prop := fnTagLengthIgnoresWhatFollowsRow.holds Try.pinned (OpenSpec.ofChange fnTagLengthIgnoresWhatFollowsSpec)

/-- ITS FALSE NEIGHBOUR: 'it returns false'. Refute it at one input. -/
def fnTagLengthIgnoresWhatFollowsWrong : ChangeSpec := { name := "fnTagLengthIgnoresWhatFollows", fn := fun _ => fun
  | [d1, d2] => { results := [.lit (.bool false)], args := [d1, d2] }
  | _ => none }
def FnTagLengthIgnoresWhatFollowsWrongFalsely : Prop := fnTagLengthIgnoresWhatFollowsRow.holds Try.pinned (OpenSpec.ofChange fnTagLengthIgnoresWhatFollowsWrong)

/-- 'zzlaws_root_b1.FnTagLengthWeakMarkerAddsTwo': WHATEVER THE INPUT: true; the input reads as it did. -/
def fnTagLengthWeakMarkerAddsTwoSpec : ChangeSpec := { name := "fnTagLengthWeakMarkerAddsTwo", fn := fun _ => fun
  | [d] => { results := [.lit (.bool true)], args := [d] }
  | _ => none }
def fnTagLengthWeakMarkerAddsTwoRow : OpenClaim := { program := "qxb6601561a", sum := "30b0943e8c2db8f335907f274ecdc4f75fee0a31e252bda5e5ae3f9956b2dab3", func := "example.com/envelope/envelope/zzlaws_root_b1.FnTagLengthWeakMarkerAddsTwo", spec := "fnTagLengthWeakMarkerAddsTwo", apart := false }
def FnTagLengthWeakMarkerAddsTwoSaid : Prop := fnTagLengthWeakMarkerAddsTwoRow.holds Try.pinned (OpenSpec.ofChange fnTagLengthWeakMarkerAddsTwoSpec)

/-- ITS FALSE NEIGHBOUR: 'it returns false'. Refute it at one input. -/
def fnTagLengthWeakMarkerAddsTwoWrong : ChangeSpec := { name := "fnTagLengthWeakMarkerAddsTwo", fn := fun _ => fun
  | [d] => { results := [.lit (.bool false)], args := [d] }
  | _ => none }
def FnTagLengthWeakMarkerAddsTwoWrongFalsely : Prop := fnTagLengthWeakMarkerAddsTwoRow.holds Try.pinned (OpenSpec.ofChange fnTagLengthWeakMarkerAddsTwoWrong)

end Rows
end Go.Proofs.Qxb6601561a
