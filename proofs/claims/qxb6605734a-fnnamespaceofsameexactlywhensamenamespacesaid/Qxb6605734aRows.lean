/-
  No cell of these rows narrows 'for every input' (looked for: loops, veiled, ifaces, maps, wideKeys, modest, calm, conditions, laid).
  DERIVED. THE GIVEN ROWS OF THIS SEAT. 2 by the template 'for every input the law returns true; each argument reads behind the call as it read before'; 0 by the template 'total and deterministic' (their statements: Qxb6605734aTotals.lean).
  GIVEN WITH THE SEED: the statements are not yours to turn. If you find one false, say at which input.
  Laid BY PROGRAM, IN A SANDBOX (cutbox-rows.mjs): the forced cells as the released guide's own fill.sh prints them over the translation 76b2d63536fdc839… (all of the seat's roots in one cut). By AI agents, Wed Nov 11 2026. No macro, syntax, notation, axiom, sorry.
-/
import Derived.Test.Qxb6605734aChecked
import GoSem.Claim
import GoSem.ClaimJoined
import GoSem.ClaimMapViews
import Derived.JoinedTies
import Derived.KernelRfl
namespace Go.Proofs.Qxb6605734a
/- THE CELL 'sum', in the pinned program and in every row, IS THE sha256 OF THE DUMP (.gsa) THAT Qxb6605734aProg.lean LOADS. Nothing in Lean hashes anything: it is a label: what it is worth is what the hold of that sum in a sandbox is worth. -/
noncomputable def Try.pinned : Pinned := { name := "qxb6605734a", sum := "76b2d63536fdc8398785af7e490074fb4fa5cf7682e2623bd040fee19732fe27", checked := Try.checked }
namespace Rows
def none {H : Type} : Left H := { results := [], args := [] }

/-- 'zzlaws_root_b1.FnLeavesTLSSplitsOverChains': WHATEVER THE INPUT: true; the input reads as it did. -/
def fnLeavesTLSSplitsOverChainsSpec : ChangeSpec := { name := "fnLeavesTLSSplitsOverChains", fn := fun _ => fun
  | [d1, d2, d3, d4, d5, d6, d7, d8, d9] => { results := [.lit (.bool true)], args := [d1, d2, d3, d4, d5, d6, d7, d8, d9] }
  | _ => none }
def fnLeavesTLSSplitsOverChainsRow : OpenClaim := { program := "qxb6605734a", sum := "76b2d63536fdc8398785af7e490074fb4fa5cf7682e2623bd040fee19732fe27", func := "example.com/reconcilia/reconcilia/zzlaws_root_b1.FnLeavesTLSSplitsOverChains", spec := "fnLeavesTLSSplitsOverChains", apart := false }
def FnLeavesTLSSplitsOverChainsSaid : Prop := fnLeavesTLSSplitsOverChainsRow.holds Try.pinned (OpenSpec.ofChange fnLeavesTLSSplitsOverChainsSpec)

/-- ITS FALSE NEIGHBOUR: 'it returns false'. Refute it at one input. -/
def fnLeavesTLSSplitsOverChainsWrong : ChangeSpec := { name := "fnLeavesTLSSplitsOverChains", fn := fun _ => fun
  | [d1, d2, d3, d4, d5, d6, d7, d8, d9] => { results := [.lit (.bool false)], args := [d1, d2, d3, d4, d5, d6, d7, d8, d9] }
  | _ => none }
def FnLeavesTLSSplitsOverChainsWrongFalsely : Prop := fnLeavesTLSSplitsOverChainsRow.holds Try.pinned (OpenSpec.ofChange fnLeavesTLSSplitsOverChainsWrong)

/-- 'zzlaws_root_b1.FnNamespaceOfSameExactlyWhenSameNamespace': WHATEVER THE INPUT: true; the input reads as it did. -/
def fnNamespaceOfSameExactlyWhenSameNamespaceSpec : ChangeSpec := { name := "fnNamespaceOfSameExactlyWhenSameNamespace", fn := fun _ => fun
  | [d1, d2, d3, d4, d5, d6] => { results := [.lit (.bool true)], args := [d1, d2, d3, d4, d5, d6] }
  | _ => none }
def fnNamespaceOfSameExactlyWhenSameNamespaceRow : OpenClaim := { program := "qxb6605734a", sum := "76b2d63536fdc8398785af7e490074fb4fa5cf7682e2623bd040fee19732fe27", func := "example.com/reconcilia/reconcilia/zzlaws_root_b1.FnNamespaceOfSameExactlyWhenSameNamespace", spec := "fnNamespaceOfSameExactlyWhenSameNamespace", apart := false }
def FnNamespaceOfSameExactlyWhenSameNamespaceSaid : Prop := fnNamespaceOfSameExactlyWhenSameNamespaceRow.holds Try.pinned (OpenSpec.ofChange fnNamespaceOfSameExactlyWhenSameNamespaceSpec)

/-- ITS FALSE NEIGHBOUR: 'it returns false'. Refute it at one input. -/
def fnNamespaceOfSameExactlyWhenSameNamespaceWrong : ChangeSpec := { name := "fnNamespaceOfSameExactlyWhenSameNamespace", fn := fun _ => fun
  | [d1, d2, d3, d4, d5, d6] => { results := [.lit (.bool false)], args := [d1, d2, d3, d4, d5, d6] }
  | _ => none }
def FnNamespaceOfSameExactlyWhenSameNamespaceWrongFalsely : Prop := fnNamespaceOfSameExactlyWhenSameNamespaceRow.holds Try.pinned (OpenSpec.ofChange fnNamespaceOfSameExactlyWhenSameNamespaceWrong)

end Rows
end Go.Proofs.Qxb6605734a
