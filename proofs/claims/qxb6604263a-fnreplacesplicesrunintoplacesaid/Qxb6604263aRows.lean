/-
  No cell of these rows narrows 'for every input' (looked for: loops, veiled, ifaces, maps, wideKeys, modest, calm, conditions, laid).
  DERIVED. THE GIVEN ROWS OF THIS SEAT. 5 by the template 'for every input the law returns true; each argument reads behind the call as it read before'; 0 by the template 'total and deterministic' (their statements: Qxb6604263aTotals.lean).
  GIVEN WITH THE SEED: the statements are not yours to turn. If you find one false, say at which input.
  Laid BY PROGRAM, IN A SANDBOX (cutbox-rows.mjs): the forced cells as the released guide's own fill.sh prints them over the translation 48429b6702aad064… (all of the seat's roots in one cut). By AI agents, Wed Nov 11 2026. No macro, syntax, notation, axiom, sorry.
-/
import Derived.Test.Qxb6604263aChecked
import GoSem.Claim
import GoSem.ClaimJoined
import GoSem.ClaimMapViews
import Derived.JoinedTies
import Derived.KernelRfl
namespace Go.Proofs.Qxb6604263a
/- THE CELL 'sum', in the pinned program and in every row, IS THE sha256 OF THE DUMP (.gsa) THAT Qxb6604263aProg.lean LOADS. Nothing in Lean hashes anything: it is a label: what it is worth is what the hold of that sum in a sandbox is worth. -/
noncomputable def Try.pinned : Pinned := { name := "qxb6604263a", sum := "48429b6702aad0642de65dcad3ee0372306a0651b25655977135c6ac16cae818", checked := Try.checked }
namespace Rows
def none {H : Type} : Left H := { results := [], args := [] }

/-- 'zzlaws_internal_locktable_b1.FnPrecedesIsKeyOrder': WHATEVER THE INPUT: true; the input reads as it did. -/
def fnPrecedesIsKeyOrderSpec : ChangeSpec := { name := "fnPrecedesIsKeyOrder", fn := fun _ => fun
  | [d1, d2, d3, d4, d5] => { results := [.lit (.bool true)], args := [d1, d2, d3, d4, d5] }
  | _ => none }
def fnPrecedesIsKeyOrderRow : OpenClaim := { program := "qxb6604263a", sum := "48429b6702aad0642de65dcad3ee0372306a0651b25655977135c6ac16cae818", func := "example.com/waitgraph/waitgraph/zzlaws_internal_locktable_b1.FnPrecedesIsKeyOrder", spec := "fnPrecedesIsKeyOrder", apart := false }
def FnPrecedesIsKeyOrderSaid : Prop := fnPrecedesIsKeyOrderRow.holds Try.pinned (OpenSpec.ofChange fnPrecedesIsKeyOrderSpec)

/-- ITS FALSE NEIGHBOUR: 'it returns false'. Refute it at one input. -/
def fnPrecedesIsKeyOrderWrong : ChangeSpec := { name := "fnPrecedesIsKeyOrder", fn := fun _ => fun
  | [d1, d2, d3, d4, d5] => { results := [.lit (.bool false)], args := [d1, d2, d3, d4, d5] }
  | _ => none }
def FnPrecedesIsKeyOrderWrongFalsely : Prop := fnPrecedesIsKeyOrderRow.holds Try.pinned (OpenSpec.ofChange fnPrecedesIsKeyOrderWrong)

/-- 'zzlaws_internal_locktable_b1.FnPrecedesKeepsKeyOrderUnderRotations': WHATEVER THE INPUT: true; the input reads as it did. -/
def fnPrecedesKeepsKeyOrderUnderRotationsSpec : ChangeSpec := { name := "fnPrecedesKeepsKeyOrderUnderRotations", fn := fun _ => fun
  | [d1, d2, d3, d4, d5, d6] => { results := [.lit (.bool true)], args := [d1, d2, d3, d4, d5, d6] }
  | _ => none }
def fnPrecedesKeepsKeyOrderUnderRotationsRow : OpenClaim := { program := "qxb6604263a", sum := "48429b6702aad0642de65dcad3ee0372306a0651b25655977135c6ac16cae818", func := "example.com/waitgraph/waitgraph/zzlaws_internal_locktable_b1.FnPrecedesKeepsKeyOrderUnderRotations", spec := "fnPrecedesKeepsKeyOrderUnderRotations", apart := false }
def FnPrecedesKeepsKeyOrderUnderRotationsSaid : Prop := fnPrecedesKeepsKeyOrderUnderRotationsRow.holds Try.pinned (OpenSpec.ofChange fnPrecedesKeepsKeyOrderUnderRotationsSpec)

/-- ITS FALSE NEIGHBOUR: 'it returns false'. Refute it at one input. -/
def fnPrecedesKeepsKeyOrderUnderRotationsWrong : ChangeSpec := { name := "fnPrecedesKeepsKeyOrderUnderRotations", fn := fun _ => fun
  | [d1, d2, d3, d4, d5, d6] => { results := [.lit (.bool false)], args := [d1, d2, d3, d4, d5, d6] }
  | _ => none }
def FnPrecedesKeepsKeyOrderUnderRotationsWrongFalsely : Prop := fnPrecedesKeepsKeyOrderUnderRotationsRow.holds Try.pinned (OpenSpec.ofChange fnPrecedesKeepsKeyOrderUnderRotationsWrong)

/-- 'zzlaws_internal_locktable_b1.FnRotateUpMovesDepthsExactly': WHATEVER THE INPUT: true; the input reads as it did. -/
def fnRotateUpMovesDepthsExactlySpec : ChangeSpec := { name := "fnRotateUpMovesDepthsExactly", fn := fun _ => fun
  | [d1, d2] => { results := [.lit (.bool true)], args := [d1, d2] }
  | _ => none }
def fnRotateUpMovesDepthsExactlyRow : OpenClaim := { program := "qxb6604263a", sum := "48429b6702aad0642de65dcad3ee0372306a0651b25655977135c6ac16cae818", func := "example.com/waitgraph/waitgraph/zzlaws_internal_locktable_b1.FnRotateUpMovesDepthsExactly", spec := "fnRotateUpMovesDepthsExactly", recurses := true, apart := false }
def FnRotateUpMovesDepthsExactlySaid : Prop := fnRotateUpMovesDepthsExactlyRow.holds Try.pinned (OpenSpec.ofChange fnRotateUpMovesDepthsExactlySpec)

/-- ITS FALSE NEIGHBOUR: 'it returns false'. Refute it at one input. -/
def fnRotateUpMovesDepthsExactlyWrong : ChangeSpec := { name := "fnRotateUpMovesDepthsExactly", fn := fun _ => fun
  | [d1, d2] => { results := [.lit (.bool false)], args := [d1, d2] }
  | _ => none }
def FnRotateUpMovesDepthsExactlyWrongFalsely : Prop := fnRotateUpMovesDepthsExactlyRow.holds Try.pinned (OpenSpec.ofChange fnRotateUpMovesDepthsExactlyWrong)

/-- 'zzlaws_internal_locktable_b1.FnReplaceSplicesRunIntoPlace': WHATEVER THE INPUT: true; the input reads as it did. -/
def fnReplaceSplicesRunIntoPlaceSpec : ChangeSpec := { name := "fnReplaceSplicesRunIntoPlace", fn := fun _ => fun
  | [d1, d2, d3, d4] => { results := [.lit (.bool true)], args := [d1, d2, d3, d4] }
  | _ => none }
def fnReplaceSplicesRunIntoPlaceRow : OpenClaim := { program := "qxb6604263a", sum := "48429b6702aad0642de65dcad3ee0372306a0651b25655977135c6ac16cae818", func := "example.com/waitgraph/waitgraph/zzlaws_internal_locktable_b1.FnReplaceSplicesRunIntoPlace", spec := "fnReplaceSplicesRunIntoPlace", recurses := true, apart := false }
def FnReplaceSplicesRunIntoPlaceSaid : Prop := fnReplaceSplicesRunIntoPlaceRow.holds Try.pinned (OpenSpec.ofChange fnReplaceSplicesRunIntoPlaceSpec)

/-- ITS FALSE NEIGHBOUR: 'it returns false'. Refute it at one input. -/
def fnReplaceSplicesRunIntoPlaceWrong : ChangeSpec := { name := "fnReplaceSplicesRunIntoPlace", fn := fun _ => fun
  | [d1, d2, d3, d4] => { results := [.lit (.bool false)], args := [d1, d2, d3, d4] }
  | _ => none }
def FnReplaceSplicesRunIntoPlaceWrongFalsely : Prop := fnReplaceSplicesRunIntoPlaceRow.holds Try.pinned (OpenSpec.ofChange fnReplaceSplicesRunIntoPlaceWrong)

/-- 'zzlaws_internal_locktable_b1.FnReplaceByOnlyChildUnlinks': WHATEVER THE INPUT: true; the input reads as it did. -/
def fnReplaceByOnlyChildUnlinksSpec : ChangeSpec := { name := "fnReplaceByOnlyChildUnlinks", fn := fun _ => fun
  | [d1, d2] => { results := [.lit (.bool true)], args := [d1, d2] }
  | _ => none }
def fnReplaceByOnlyChildUnlinksRow : OpenClaim := { program := "qxb6604263a", sum := "48429b6702aad0642de65dcad3ee0372306a0651b25655977135c6ac16cae818", func := "example.com/waitgraph/waitgraph/zzlaws_internal_locktable_b1.FnReplaceByOnlyChildUnlinks", spec := "fnReplaceByOnlyChildUnlinks", recurses := true, apart := false }
def FnReplaceByOnlyChildUnlinksSaid : Prop := fnReplaceByOnlyChildUnlinksRow.holds Try.pinned (OpenSpec.ofChange fnReplaceByOnlyChildUnlinksSpec)

/-- ITS FALSE NEIGHBOUR: 'it returns false'. Refute it at one input. -/
def fnReplaceByOnlyChildUnlinksWrong : ChangeSpec := { name := "fnReplaceByOnlyChildUnlinks", fn := fun _ => fun
  | [d1, d2] => { results := [.lit (.bool false)], args := [d1, d2] }
  | _ => none }
def FnReplaceByOnlyChildUnlinksWrongFalsely : Prop := fnReplaceByOnlyChildUnlinksRow.holds Try.pinned (OpenSpec.ofChange fnReplaceByOnlyChildUnlinksWrong)

end Rows
end Go.Proofs.Qxb6604263a
