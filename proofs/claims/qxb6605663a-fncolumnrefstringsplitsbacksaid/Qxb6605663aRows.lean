/-
  No cell of these rows narrows 'for every input' (looked for: loops, veiled, ifaces, maps, wideKeys, modest, calm, conditions, laid).
  DERIVED. THE GIVEN ROWS OF THIS SEAT. 2 by the template 'for every input the law returns true; each argument reads behind the call as it read before'; 0 by the template 'total and deterministic' (their statements: Qxb6605663aTotals.lean).
  GIVEN WITH THE SEED: the statements are not yours to turn. If you find one false, say at which input.
  Laid BY PROGRAM, IN A SANDBOX (cutbox-rows.mjs): the forced cells as the released guide's own fill.sh prints them over the translation 92b5e9e25548bd30… (all of the seat's roots in one cut). By AI agents, Wed Nov 11 2026. No macro, syntax, notation, axiom, sorry.
-/
import Derived.Test.Qxb6605663aChecked
import GoSem.Claim
import GoSem.ClaimJoined
import GoSem.ClaimMapViews
import Derived.JoinedTies
import Derived.KernelRfl
namespace Go.Proofs.Qxb6605663a
/- THE CELL 'sum', in the pinned program and in every row, IS THE sha256 OF THE DUMP (.gsa) THAT Qxb6605663aProg.lean LOADS. Nothing in Lean hashes anything: it is a label: what it is worth is what the hold of that sum in a sandbox is worth. -/
noncomputable def Try.pinned : Pinned := { name := "qxb6605663a", sum := "92b5e9e25548bd30dd9a5c93d135f922353ca4022e34f07801fab892af815590", checked := Try.checked }
namespace Rows
def none {H : Type} : Left H := { results := [], args := [] }

/-- 'zzlaws_internal_parser_b1.FnColumnRefStringSplitsBack': WHATEVER THE INPUT: true; the input reads as it did. -/
def fnColumnRefStringSplitsBackSpec : ChangeSpec := { name := "fnColumnRefStringSplitsBack", fn := fun _ => fun
  | [d1, d2, d3] => { results := [.lit (.bool true)], args := [d1, d2, d3] }
  | _ => none }
def fnColumnRefStringSplitsBackRow : OpenClaim := { program := "qxb6605663a", sum := "92b5e9e25548bd30dd9a5c93d135f922353ca4022e34f07801fab892af815590", func := "example.com/lockspan/lockspan/zzlaws_internal_parser_b1.FnColumnRefStringSplitsBack", spec := "fnColumnRefStringSplitsBack", apart := false }
def FnColumnRefStringSplitsBackSaid : Prop := fnColumnRefStringSplitsBackRow.holds Try.pinned (OpenSpec.ofChange fnColumnRefStringSplitsBackSpec)

/-- ITS FALSE NEIGHBOUR: 'it returns false'. Refute it at one input. -/
def fnColumnRefStringSplitsBackWrong : ChangeSpec := { name := "fnColumnRefStringSplitsBack", fn := fun _ => fun
  | [d1, d2, d3] => { results := [.lit (.bool false)], args := [d1, d2, d3] }
  | _ => none }
def FnColumnRefStringSplitsBackWrongFalsely : Prop := fnColumnRefStringSplitsBackRow.holds Try.pinned (OpenSpec.ofChange fnColumnRefStringSplitsBackWrong)

/-- 'zzlaws_internal_parser_b1.FnUnsupportedStableAndFresh': WHATEVER THE INPUT: true; the input reads as it did. -/
def fnUnsupportedStableAndFreshSpec : ChangeSpec := { name := "fnUnsupportedStableAndFresh", fn := fun _ => fun
  | [d1, d2] => { results := [.lit (.bool true)], args := [d1, d2] }
  | _ => none }
def fnUnsupportedStableAndFreshRow : OpenClaim := { program := "qxb6605663a", sum := "92b5e9e25548bd30dd9a5c93d135f922353ca4022e34f07801fab892af815590", func := "example.com/lockspan/lockspan/zzlaws_internal_parser_b1.FnUnsupportedStableAndFresh", spec := "fnUnsupportedStableAndFresh", apart := false }
def FnUnsupportedStableAndFreshSaid : Prop := fnUnsupportedStableAndFreshRow.holds Try.pinned (OpenSpec.ofChange fnUnsupportedStableAndFreshSpec)

/-- ITS FALSE NEIGHBOUR: 'it returns false'. Refute it at one input. -/
def fnUnsupportedStableAndFreshWrong : ChangeSpec := { name := "fnUnsupportedStableAndFresh", fn := fun _ => fun
  | [d1, d2] => { results := [.lit (.bool false)], args := [d1, d2] }
  | _ => none }
def FnUnsupportedStableAndFreshWrongFalsely : Prop := fnUnsupportedStableAndFreshRow.holds Try.pinned (OpenSpec.ofChange fnUnsupportedStableAndFreshWrong)

end Rows
end Go.Proofs.Qxb6605663a
