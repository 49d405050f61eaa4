/-
  DERIVED. GIVEN WITH THE SEED: THE CARDS: each row of Qxb6609277aFmtRows.lean that lists a variable, with what it lists TIED to the program's text (the seventh form; the later family's looks); each row that meets fmt, with fmt's text TOLD by the authors' own Lean function (tested against real Go, not proved from fmt's source: count such statements apart). THE CARD IS WHAT COUNTS. Prove the row's statement (the work); the ties are given (Qxb6609277aFmtTie.lean); close each card by the builder's one call (the guide's Derived/Test/ToyasCard.lean, 'card_holds'). Laid BY PROGRAM, IN A SANDBOX (cutbox-door.mjs). By AI agents, Wed Nov 11 2026. No macro, syntax, notation, axiom, sorry.
-/
import Derived.Test.Qxb6609277aFmtRows
import GoSem.ClaimSeven
namespace Go.Proofs.Qxb6609277aFmt
namespace Rows

/-- THE TOLD CARD OF 'zzlaws_internal_yaml_b1.FnResolveTagExpandsBackToFullTag'. -/
def fnResolveTagExpandsBackToFullTagCard : Claim7 := { stood := { row := fnResolveTagExpandsBackToFullTagRow, standIns := [], harness := (true, "4a4a808311a8b6a85a6f93e43b44ec0fe797d3990c3208cd1fa4653bbcdece2f"), looks := false }, told := true, goes := false }
def FnResolveTagExpandsBackToFullTagToldSaid : Prop := Claim7.holds Tryf.pinned (.plain (OpenSpec.ofChange fnResolveTagExpandsBackToFullTagSpec)) fnResolveTagExpandsBackToFullTagCard
/-- ITS FALSE NEIGHBOUR. Refute it at one input. -/
def FnResolveTagExpandsBackToFullTagToldWrongFalsely : Prop := Claim7.holds Tryf.pinned (.plain (OpenSpec.ofChange fnResolveTagExpandsBackToFullTagWrong)) fnResolveTagExpandsBackToFullTagCard

/-- THE TOLD CARD OF 'zzlaws_internal_yaml_b1.FnResolveTagIdempotentAndHandleIsPrefix'. -/
def fnResolveTagIdempotentAndHandleIsPrefixCard : Claim7 := { stood := { row := fnResolveTagIdempotentAndHandleIsPrefixRow, standIns := [], harness := (true, "4a4a808311a8b6a85a6f93e43b44ec0fe797d3990c3208cd1fa4653bbcdece2f"), looks := false }, told := true, goes := false }
def FnResolveTagIdempotentAndHandleIsPrefixToldSaid : Prop := Claim7.holds Tryf.pinned (.plain (OpenSpec.ofChange fnResolveTagIdempotentAndHandleIsPrefixSpec)) fnResolveTagIdempotentAndHandleIsPrefixCard
/-- ITS FALSE NEIGHBOUR. Refute it at one input. -/
def FnResolveTagIdempotentAndHandleIsPrefixToldWrongFalsely : Prop := Claim7.holds Tryf.pinned (.plain (OpenSpec.ofChange fnResolveTagIdempotentAndHandleIsPrefixWrong)) fnResolveTagIdempotentAndHandleIsPrefixCard
end Rows
end Go.Proofs.Qxb6609277aFmt
