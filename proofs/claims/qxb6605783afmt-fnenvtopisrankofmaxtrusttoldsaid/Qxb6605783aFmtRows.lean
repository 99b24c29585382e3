/-
  No cell of these rows narrows 'for every input' (looked for: loops, veiled, ifaces, maps, wideKeys, modest, calm, conditions, laid).
  DERIVED. THE GIVEN ROWS OF THIS SEAT. 2 by the template 'for every input the law returns true; each argument reads behind the call as it read before'; 0 by the template 'total and deterministic' (their statements: Qxb6605783aFmtTotals.lean).
  GIVEN WITH THE SEED: the statements are not yours to turn. If you find one false, say at which input.
  Laid BY PROGRAM, IN A SANDBOX (cutbox-rows.mjs): the forced cells as the released guide's own fill.sh prints them over the translation 22e0d900653e2cee… (all of the seat's roots in one cut). By AI agents, Wed Nov 11 2026. No macro, syntax, notation, axiom, sorry.
-/
import Derived.Test.Qxb6605783aFmtChecked
import GoSem.Claim
import GoSem.ClaimJoined
import GoSem.ClaimMapViews
import Derived.JoinedTies
import Derived.KernelRfl
namespace Go.Proofs.Qxb6605783aFmt
/- THE CELL 'sum', in the pinned program and in every row, IS THE sha256 OF THE DUMP (.gsa) THAT Qxb6605783aFmtProg.lean LOADS. Nothing in Lean hashes anything: it is a label: what it is worth is what the hold of that sum in a sandbox is worth. -/
noncomputable def Tryf.pinned : Pinned := { name := "qxb6605783afmt", sum := "22e0d900653e2cee2b37626edfcd4b7b13a394c496e52979a0619b0b26464f14", checked := Tryf.checked }
namespace Rows
def none {H : Type} : Left H := { results := [], args := [] }

/-- 'zzlaws_internal_keynote_b1.FnEnvTopIsRankOfMaxTrust': WHATEVER THE INPUT: true; the input reads as it did. -/
def fnEnvTopIsRankOfMaxTrustSpec : ChangeSpec := { name := "fnEnvTopIsRankOfMaxTrust", fn := fun _ => fun
  | [d1, d2] => { results := [.lit (.bool true)], args := [d1, d2] }
  | _ => none }
def fnEnvTopIsRankOfMaxTrustRow : OpenClaim := { program := "qxb6605783afmt", sum := "22e0d900653e2cee2b37626edfcd4b7b13a394c496e52979a0619b0b26464f14", func := "example.com/rhadamanthus/rhadamanthus/zzlaws_internal_keynote_b1.FnEnvTopIsRankOfMaxTrust", spec := "fnEnvTopIsRankOfMaxTrust", stops := ["fmt.errorf"], inPlace := ["fmt.errorf", "internal/abi.NoEscape", "internal/bytealg.MakeNoZero"], unfollowed := true, recurses := true, apart := false }
/-- NO THEOREM (fmt's text is open here; it may be false): for the released tool's asking of the row's closed facts alone. THE STATEMENT IS 'FnEnvTopIsRankOfMaxTrustToldSaid' (Qxb6605783aFmtCards.lean). -/
def FnEnvTopIsRankOfMaxTrustFormAsk : Prop := fnEnvTopIsRankOfMaxTrustRow.holds Tryf.pinned (OpenSpec.ofChange fnEnvTopIsRankOfMaxTrustSpec)

/-- ITS FALSE NEIGHBOUR: 'it returns false'. Refute it at one input. -/
def fnEnvTopIsRankOfMaxTrustWrong : ChangeSpec := { name := "fnEnvTopIsRankOfMaxTrust", fn := fun _ => fun
  | [d1, d2] => { results := [.lit (.bool false)], args := [d1, d2] }
  | _ => none }
def FnEnvTopIsRankOfMaxTrustWrongFormAsk : Prop := fnEnvTopIsRankOfMaxTrustRow.holds Tryf.pinned (OpenSpec.ofChange fnEnvTopIsRankOfMaxTrustWrong)

/-- 'zzlaws_internal_keynote_b1.FnEnvTopGrowsByOneWithANewValue': WHATEVER THE INPUT: true; the input reads as it did. -/
def fnEnvTopGrowsByOneWithANewValueSpec : ChangeSpec := { name := "fnEnvTopGrowsByOneWithANewValue", fn := fun _ => fun
  | [d1, d2, d3] => { results := [.lit (.bool true)], args := [d1, d2, d3] }
  | _ => none }
def fnEnvTopGrowsByOneWithANewValueRow : OpenClaim := { program := "qxb6605783afmt", sum := "22e0d900653e2cee2b37626edfcd4b7b13a394c496e52979a0619b0b26464f14", func := "example.com/rhadamanthus/rhadamanthus/zzlaws_internal_keynote_b1.FnEnvTopGrowsByOneWithANewValue", spec := "fnEnvTopGrowsByOneWithANewValue", stops := ["fmt.errorf"], inPlace := ["fmt.errorf", "internal/abi.NoEscape", "internal/bytealg.MakeNoZero"], unfollowed := true, recurses := true, apart := false }
/-- NO THEOREM (fmt's text is open here; it may be false): for the released tool's asking of the row's closed facts alone. THE STATEMENT IS 'FnEnvTopGrowsByOneWithANewValueToldSaid' (Qxb6605783aFmtCards.lean). -/
def FnEnvTopGrowsByOneWithANewValueFormAsk : Prop := fnEnvTopGrowsByOneWithANewValueRow.holds Tryf.pinned (OpenSpec.ofChange fnEnvTopGrowsByOneWithANewValueSpec)

/-- ITS FALSE NEIGHBOUR: 'it returns false'. Refute it at one input. -/
def fnEnvTopGrowsByOneWithANewValueWrong : ChangeSpec := { name := "fnEnvTopGrowsByOneWithANewValue", fn := fun _ => fun
  | [d1, d2, d3] => { results := [.lit (.bool false)], args := [d1, d2, d3] }
  | _ => none }
def FnEnvTopGrowsByOneWithANewValueWrongFormAsk : Prop := fnEnvTopGrowsByOneWithANewValueRow.holds Tryf.pinned (OpenSpec.ofChange fnEnvTopGrowsByOneWithANewValueWrong)

end Rows
end Go.Proofs.Qxb6605783aFmt
