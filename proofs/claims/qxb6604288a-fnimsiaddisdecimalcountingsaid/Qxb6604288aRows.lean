/-
  No cell of these rows narrows 'for every input' (looked for: loops, veiled, ifaces, maps, wideKeys, modest, calm, conditions, laid).
  DERIVED. THE GIVEN ROWS OF THIS SEAT. 3 by the template 'for every input the law returns true; each argument reads behind the call as it read before'; 0 by the template 'total and deterministic' (their statements: Qxb6604288aTotals.lean).
  GIVEN WITH THE SEED: the statements are not yours to turn. If you find one false, say at which input.
  Laid BY PROGRAM, IN A SANDBOX (cutbox-rows.mjs): the forced cells as the released guide's own fill.sh prints them over the translation d7263f8dffa98619… (all of the seat's roots in one cut). By AI agents, Wed Nov 11 2026. No macro, syntax, notation, axiom, sorry.
-/
import Derived.Test.Qxb6604288aChecked
import GoSem.Claim
import GoSem.ClaimJoined
import GoSem.ClaimMapViews
import Derived.JoinedTies
import Derived.KernelRfl
namespace Go.Proofs.Qxb6604288a
/- THE CELL 'sum', in the pinned program and in every row, IS THE sha256 OF THE DUMP (.gsa) THAT Qxb6604288aProg.lean LOADS. Nothing in Lean hashes anything: it is a label: what it is worth is what the hold of that sum in a sandbox is worth. -/
noncomputable def Try.pinned : Pinned := { name := "qxb6604288a", sum := "d7263f8dffa986193eb5a4785ce540d1b36497d15f06d4bcb633c98d2d30dcaa", checked := Try.checked }
namespace Rows
def none {H : Type} : Left H := { results := [], args := [] }

/-- 'zzlaws_root_b1.FnParseHexMatchesPositionalModel': WHATEVER THE INPUT: true; the input reads as it did. -/
def fnParseHexMatchesPositionalModelSpec : ChangeSpec := { name := "fnParseHexMatchesPositionalModel", fn := fun _ => fun
  | [d1, d2] => { results := [.lit (.bool true)], args := [d1, d2] }
  | _ => none }
def fnParseHexMatchesPositionalModelRow : OpenClaim := { program := "qxb6604288a", sum := "d7263f8dffa986193eb5a4785ce540d1b36497d15f06d4bcb633c98d2d30dcaa", func := "example.com/liaison/liaison/zzlaws_root_b1.FnParseHexMatchesPositionalModel", spec := "fnParseHexMatchesPositionalModel", apart := false }
def FnParseHexMatchesPositionalModelSaid : Prop := fnParseHexMatchesPositionalModelRow.holds Try.pinned (OpenSpec.ofChange fnParseHexMatchesPositionalModelSpec)

/-- ITS FALSE NEIGHBOUR: 'it returns false'. Refute it at one input. -/
def fnParseHexMatchesPositionalModelWrong : ChangeSpec := { name := "fnParseHexMatchesPositionalModel", fn := fun _ => fun
  | [d1, d2] => { results := [.lit (.bool false)], args := [d1, d2] }
  | _ => none }
def FnParseHexMatchesPositionalModelWrongFalsely : Prop := fnParseHexMatchesPositionalModelRow.holds Try.pinned (OpenSpec.ofChange fnParseHexMatchesPositionalModelWrong)

/-- 'zzlaws_root_b1.FnParseHexReadsWhatHexWrites': WHATEVER THE INPUT: true; the input reads as it did. -/
def fnParseHexReadsWhatHexWritesSpec : ChangeSpec := { name := "fnParseHexReadsWhatHexWrites", fn := fun _ => fun
  | [d1, d2] => { results := [.lit (.bool true)], args := [d1, d2] }
  | _ => none }
def fnParseHexReadsWhatHexWritesRow : OpenClaim := { program := "qxb6604288a", sum := "d7263f8dffa986193eb5a4785ce540d1b36497d15f06d4bcb633c98d2d30dcaa", func := "example.com/liaison/liaison/zzlaws_root_b1.FnParseHexReadsWhatHexWrites", spec := "fnParseHexReadsWhatHexWrites", apart := false }
def FnParseHexReadsWhatHexWritesSaid : Prop := fnParseHexReadsWhatHexWritesRow.holds Try.pinned (OpenSpec.ofChange fnParseHexReadsWhatHexWritesSpec)

/-- ITS FALSE NEIGHBOUR: 'it returns false'. Refute it at one input. -/
def fnParseHexReadsWhatHexWritesWrong : ChangeSpec := { name := "fnParseHexReadsWhatHexWrites", fn := fun _ => fun
  | [d1, d2] => { results := [.lit (.bool false)], args := [d1, d2] }
  | _ => none }
def FnParseHexReadsWhatHexWritesWrongFalsely : Prop := fnParseHexReadsWhatHexWritesRow.holds Try.pinned (OpenSpec.ofChange fnParseHexReadsWhatHexWritesWrong)

/-- 'zzlaws_root_b1.FnIMSIAddIsDecimalCounting': WHATEVER THE INPUT: true; the input reads as it did. -/
def fnIMSIAddIsDecimalCountingSpec : ChangeSpec := { name := "fnIMSIAddIsDecimalCounting", fn := fun _ => fun
  | [d1, d2] => { results := [.lit (.bool true)], args := [d1, d2] }
  | _ => none }
def fnIMSIAddIsDecimalCountingRow : OpenClaim := { program := "qxb6604288a", sum := "d7263f8dffa986193eb5a4785ce540d1b36497d15f06d4bcb633c98d2d30dcaa", func := "example.com/liaison/liaison/zzlaws_root_b1.FnIMSIAddIsDecimalCounting", spec := "fnIMSIAddIsDecimalCounting", apart := false }
def FnIMSIAddIsDecimalCountingSaid : Prop := fnIMSIAddIsDecimalCountingRow.holds Try.pinned (OpenSpec.ofChange fnIMSIAddIsDecimalCountingSpec)

/-- ITS FALSE NEIGHBOUR: 'it returns false'. Refute it at one input. -/
def fnIMSIAddIsDecimalCountingWrong : ChangeSpec := { name := "fnIMSIAddIsDecimalCounting", fn := fun _ => fun
  | [d1, d2] => { results := [.lit (.bool false)], args := [d1, d2] }
  | _ => none }
def FnIMSIAddIsDecimalCountingWrongFalsely : Prop := fnIMSIAddIsDecimalCountingRow.holds Try.pinned (OpenSpec.ofChange fnIMSIAddIsDecimalCountingWrong)

end Rows
end Go.Proofs.Qxb6604288a
