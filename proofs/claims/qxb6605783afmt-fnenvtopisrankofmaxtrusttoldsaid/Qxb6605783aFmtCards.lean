/-
  DERIVED. GIVEN WITH THE SEED: THE CARDS: each row of Qxb6605783aFmtRows.lean that lists a variable, with what it lists TIED to the program's text (the seventh form; the later family's looks); each row that meets fmt, with fmt's text TOLD by the authors' own Lean function (tested against real Go, not proved from fmt's source: count such statements apart). THE CARD IS WHAT COUNTS. Prove the row's statement (the work); the ties are given (Qxb6605783aFmtTie.lean); close each card by the builder's one call (the guide's Derived/Test/ToyasCard.lean, 'card_holds'). Laid BY PROGRAM, IN A SANDBOX (cutbox-door.mjs). By AI agents, Wed Nov 11 2026. No macro, syntax, notation, axiom, sorry.
-/
import Derived.Test.Qxb6605783aFmtRows
import GoSem.ClaimSeven
namespace Go.Proofs.Qxb6605783aFmt
namespace Rows

/-- THE TOLD CARD OF 'zzlaws_internal_keynote_b1.FnEnvTopIsRankOfMaxTrust'. -/
def fnEnvTopIsRankOfMaxTrustCard : Claim7 := { stood := { row := fnEnvTopIsRankOfMaxTrustRow, standIns := [], harness := (true, "00f9275887728c8c538ca2cd2602161cd64c9081cb554f99194a2e3254a00c55"), looks := false }, told := true, goes := false }
def FnEnvTopIsRankOfMaxTrustToldSaid : Prop := Claim7.holds Tryf.pinned (.plain (OpenSpec.ofChange fnEnvTopIsRankOfMaxTrustSpec)) fnEnvTopIsRankOfMaxTrustCard
/-- ITS FALSE NEIGHBOUR. Refute it at one input. -/
def FnEnvTopIsRankOfMaxTrustToldWrongFalsely : Prop := Claim7.holds Tryf.pinned (.plain (OpenSpec.ofChange fnEnvTopIsRankOfMaxTrustWrong)) fnEnvTopIsRankOfMaxTrustCard

/-- THE TOLD CARD OF 'zzlaws_internal_keynote_b1.FnEnvTopGrowsByOneWithANewValue'. -/
def fnEnvTopGrowsByOneWithANewValueCard : Claim7 := { stood := { row := fnEnvTopGrowsByOneWithANewValueRow, standIns := [], harness := (true, "00f9275887728c8c538ca2cd2602161cd64c9081cb554f99194a2e3254a00c55"), looks := false }, told := true, goes := false }
def FnEnvTopGrowsByOneWithANewValueToldSaid : Prop := Claim7.holds Tryf.pinned (.plain (OpenSpec.ofChange fnEnvTopGrowsByOneWithANewValueSpec)) fnEnvTopGrowsByOneWithANewValueCard
/-- ITS FALSE NEIGHBOUR. Refute it at one input. -/
def FnEnvTopGrowsByOneWithANewValueToldWrongFalsely : Prop := Claim7.holds Tryf.pinned (.plain (OpenSpec.ofChange fnEnvTopGrowsByOneWithANewValueWrong)) fnEnvTopGrowsByOneWithANewValueCard
end Rows
end Go.Proofs.Qxb6605783aFmt
