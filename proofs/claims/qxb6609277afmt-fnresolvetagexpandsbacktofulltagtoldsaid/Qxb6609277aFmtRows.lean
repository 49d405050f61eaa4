/-
  NARROWER THAN 'FOR EVERY INPUT', by the rows' own cells (each row's printed sentence says how): FnResolveTagExpandsBackToFullTag: maps · FnResolveTagIdempotentAndHandleIsPrefix: maps.
  DERIVED. THE GIVEN ROWS OF THIS SEAT. 2 by the template 'for every input the law returns true; each argument reads behind the call as it read before'; 0 by the template 'total and deterministic' (their statements: Qxb6609277aFmtTotals.lean).
  GIVEN WITH THE SEED: the statements are not yours to turn. If you find one false, say at which input.
  Laid BY PROGRAM, IN A SANDBOX (cutbox-rows.mjs): the forced cells as the released guide's own fill.sh prints them over the translation b843b1286ddf24df… (all of the seat's roots in one cut). By AI agents, Wed Nov 11 2026. No macro, syntax, notation, axiom, sorry.
-/
import Derived.Test.Qxb6609277aFmtChecked
import GoSem.Claim
import GoSem.ClaimJoined
import GoSem.ClaimMapViews
import Derived.JoinedTies
import Derived.KernelRfl
namespace Go.Proofs.Qxb6609277aFmt
/- THE CELL 'sum', in the pinned program and in every row, IS THE sha256 OF THE DUMP (.gsa) THAT Qxb6609277aFmtProg.lean LOADS. Nothing in Lean hashes anything: it is a label: what it is worth is what the hold of that sum in a sandbox is worth. -/
noncomputable def Tryf.pinned : Pinned := { name := "qxb6609277afmt", sum := "b843b1286ddf24df04dd8c393f2728d77301463b96f47c8dcccf7ee61e5a6f8a", checked := Tryf.checked }
namespace Rows
def none {H : Type} : Left H := { results := [], args := [] }

/-- 'zzlaws_internal_yaml_b1.FnResolveTagExpandsBackToFullTag': WHATEVER THE INPUT: true; the input reads as it did. -/
def fnResolveTagExpandsBackToFullTagSpec : ChangeSpec := { name := "fnResolveTagExpandsBackToFullTag", fn := fun _ => fun
  | [d1, d2, d3, d4] => { results := [.lit (.bool true)], args := [d1, d2, d3, d4] }
  | _ => none }
def fnResolveTagExpandsBackToFullTagRow : OpenClaim := { program := "qxb6609277afmt", sum := "b843b1286ddf24df04dd8c393f2728d77301463b96f47c8dcccf7ee61e5a6f8a", func := "example.com/evenkeel/evenkeel/zzlaws_internal_yaml_b1.FnResolveTagExpandsBackToFullTag", spec := "fnResolveTagExpandsBackToFullTag", stops := ["fmt.Sprintf, its operands' methods called"], inPlace := ["fmt.Sprintf"], unfollowed := true, recurses := true, maps := true, apart := false }
/-- NO THEOREM (fmt's text is open here; it may be false): for the released tool's asking of the row's closed facts alone. THE STATEMENT IS 'FnResolveTagExpandsBackToFullTagToldSaid' (Qxb6609277aFmtCards.lean). -/
def FnResolveTagExpandsBackToFullTagFormAsk : Prop := fnResolveTagExpandsBackToFullTagRow.holds Tryf.pinned (OpenSpec.ofChange fnResolveTagExpandsBackToFullTagSpec)

/-- ITS FALSE NEIGHBOUR: 'it returns false'. Refute it at one input. -/
def fnResolveTagExpandsBackToFullTagWrong : ChangeSpec := { name := "fnResolveTagExpandsBackToFullTag", fn := fun _ => fun
  | [d1, d2, d3, d4] => { results := [.lit (.bool false)], args := [d1, d2, d3, d4] }
  | _ => none }
def FnResolveTagExpandsBackToFullTagWrongFormAsk : Prop := fnResolveTagExpandsBackToFullTagRow.holds Tryf.pinned (OpenSpec.ofChange fnResolveTagExpandsBackToFullTagWrong)

/-- 'zzlaws_internal_yaml_b1.FnResolveTagIdempotentAndHandleIsPrefix': WHATEVER THE INPUT: true; the input reads as it did. -/
def fnResolveTagIdempotentAndHandleIsPrefixSpec : ChangeSpec := { name := "fnResolveTagIdempotentAndHandleIsPrefix", fn := fun _ => fun
  | [d1, d2, d3, d4] => { results := [.lit (.bool true)], args := [d1, d2, d3, d4] }
  | _ => none }
def fnResolveTagIdempotentAndHandleIsPrefixRow : OpenClaim := { program := "qxb6609277afmt", sum := "b843b1286ddf24df04dd8c393f2728d77301463b96f47c8dcccf7ee61e5a6f8a", func := "example.com/evenkeel/evenkeel/zzlaws_internal_yaml_b1.FnResolveTagIdempotentAndHandleIsPrefix", spec := "fnResolveTagIdempotentAndHandleIsPrefix", stops := ["fmt.Sprintf, its operands' methods called"], inPlace := ["fmt.Sprintf"], unfollowed := true, recurses := true, maps := true, apart := false }
/-- NO THEOREM (fmt's text is open here; it may be false): for the released tool's asking of the row's closed facts alone. THE STATEMENT IS 'FnResolveTagIdempotentAndHandleIsPrefixToldSaid' (Qxb6609277aFmtCards.lean). -/
def FnResolveTagIdempotentAndHandleIsPrefixFormAsk : Prop := fnResolveTagIdempotentAndHandleIsPrefixRow.holds Tryf.pinned (OpenSpec.ofChange fnResolveTagIdempotentAndHandleIsPrefixSpec)

/-- ITS FALSE NEIGHBOUR: 'it returns false'. Refute it at one input. -/
def fnResolveTagIdempotentAndHandleIsPrefixWrong : ChangeSpec := { name := "fnResolveTagIdempotentAndHandleIsPrefix", fn := fun _ => fun
  | [d1, d2, d3, d4] => { results := [.lit (.bool false)], args := [d1, d2, d3, d4] }
  | _ => none }
def FnResolveTagIdempotentAndHandleIsPrefixWrongFormAsk : Prop := fnResolveTagIdempotentAndHandleIsPrefixRow.holds Tryf.pinned (OpenSpec.ofChange fnResolveTagIdempotentAndHandleIsPrefixWrong)

end Rows
end Go.Proofs.Qxb6609277aFmt
