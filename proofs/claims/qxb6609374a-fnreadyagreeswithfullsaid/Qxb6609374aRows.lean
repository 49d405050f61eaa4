/-
  No cell of these rows narrows 'for every input' (looked for: loops, veiled, ifaces, maps, wideKeys, modest, calm, conditions, laid).
  DERIVED. THE GIVEN ROWS OF THIS SEAT. 4 by the template 'for every input the law returns true; each argument reads behind the call as it read before'; 0 by the template 'total and deterministic' (their statements: Qxb6609374aTotals.lean).
  GIVEN WITH THE SEED: the statements are not yours to turn. If you find one false, say at which input.
  Laid BY PROGRAM, IN A SANDBOX (cutbox-rows.mjs): the forced cells as the released guide's own fill.sh prints them over the translation e0c9c5810f364ffc… (all of the seat's roots in one cut). By AI agents, Wed Nov 11 2026. No macro, syntax, notation, axiom, sorry.
-/
import Derived.Test.Qxb6609374aChecked
import GoSem.Claim
import GoSem.ClaimJoined
import GoSem.ClaimMapViews
import Derived.JoinedTies
import Derived.KernelRfl
namespace Go.Proofs.Qxb6609374a
/- THE CELL 'sum', in the pinned program and in every row, IS THE sha256 OF THE DUMP (.gsa) THAT Qxb6609374aProg.lean LOADS. Nothing in Lean hashes anything: it is a label: what it is worth is what the hold of that sum in a sandbox is worth. -/
noncomputable def Try.pinned : Pinned := { name := "qxb6609374a", sum := "e0c9c5810f364ffc6856da3dfd8f4ae62305247434da2f040a6859b4abea0cf0", checked := Try.checked }
namespace Rows
def none {H : Type} : Left H := { results := [], args := [] }

/-- 'zzlaws_scheduler_b1.FnLessSortsByCounter': WHATEVER THE INPUT: true; the input reads as it did. -/
def fnLessSortsByCounterSpec : ChangeSpec := { name := "fnLessSortsByCounter", fn := fun _ => fun
  | [d] => { results := [.lit (.bool true)], args := [d] }
  | _ => none }
def fnLessSortsByCounterRow : OpenClaim := { program := "qxb6609374a", sum := "e0c9c5810f364ffc6856da3dfd8f4ae62305247434da2f040a6859b4abea0cf0", func := "example.com/tokenweir/tokenweir/zzlaws_scheduler_b1.FnLessSortsByCounter", spec := "fnLessSortsByCounter", apart := false }
def FnLessSortsByCounterSaid : Prop := fnLessSortsByCounterRow.holds Try.pinned (OpenSpec.ofChange fnLessSortsByCounterSpec)

/-- ITS FALSE NEIGHBOUR: 'it returns false'. Refute it at one input. -/
def fnLessSortsByCounterWrong : ChangeSpec := { name := "fnLessSortsByCounter", fn := fun _ => fun
  | [d] => { results := [.lit (.bool false)], args := [d] }
  | _ => none }
def FnLessSortsByCounterWrongFalsely : Prop := fnLessSortsByCounterRow.holds Try.pinned (OpenSpec.ofChange fnLessSortsByCounterWrong)

/-- 'zzlaws_scheduler_b1.FnLessPicksLeast': WHATEVER THE INPUT: true; the input reads as it did. -/
def fnLessPicksLeastSpec : ChangeSpec := { name := "fnLessPicksLeast", fn := fun _ => fun
  | [d1, d2, d3] => { results := [.lit (.bool true)], args := [d1, d2, d3] }
  | _ => none }
def fnLessPicksLeastRow : OpenClaim := { program := "qxb6609374a", sum := "e0c9c5810f364ffc6856da3dfd8f4ae62305247434da2f040a6859b4abea0cf0", func := "example.com/tokenweir/tokenweir/zzlaws_scheduler_b1.FnLessPicksLeast", spec := "fnLessPicksLeast", apart := false }
def FnLessPicksLeastSaid : Prop := fnLessPicksLeastRow.holds Try.pinned (OpenSpec.ofChange fnLessPicksLeastSpec)

/-- ITS FALSE NEIGHBOUR: 'it returns false'. Refute it at one input. -/
def fnLessPicksLeastWrong : ChangeSpec := { name := "fnLessPicksLeast", fn := fun _ => fun
  | [d1, d2, d3] => { results := [.lit (.bool false)], args := [d1, d2, d3] }
  | _ => none }
def FnLessPicksLeastWrongFalsely : Prop := fnLessPicksLeastRow.holds Try.pinned (OpenSpec.ofChange fnLessPicksLeastWrong)

/-- 'zzlaws_scheduler_b1.FnFullThreshold': WHATEVER THE INPUT: true; the input reads as it did. -/
def fnFullThresholdSpec : ChangeSpec := { name := "fnFullThreshold", fn := fun _ => fun
  | [d1, d2, d3, d4, d5, d6] => { results := [.lit (.bool true)], args := [d1, d2, d3, d4, d5, d6] }
  | _ => none }
def fnFullThresholdRow : OpenClaim := { program := "qxb6609374a", sum := "e0c9c5810f364ffc6856da3dfd8f4ae62305247434da2f040a6859b4abea0cf0", func := "example.com/tokenweir/tokenweir/zzlaws_scheduler_b1.FnFullThreshold", spec := "fnFullThreshold", unfollowed := true, recurses := true, apart := false }
def FnFullThresholdSaid : Prop := fnFullThresholdRow.holds Try.pinned (OpenSpec.ofChange fnFullThresholdSpec)

/-- ITS FALSE NEIGHBOUR: 'it returns false'. Refute it at one input. -/
def fnFullThresholdWrong : ChangeSpec := { name := "fnFullThreshold", fn := fun _ => fun
  | [d1, d2, d3, d4, d5, d6] => { results := [.lit (.bool false)], args := [d1, d2, d3, d4, d5, d6] }
  | _ => none }
def FnFullThresholdWrongFalsely : Prop := fnFullThresholdRow.holds Try.pinned (OpenSpec.ofChange fnFullThresholdWrong)

/-- 'zzlaws_scheduler_b1.FnReadyAgreesWithFull': WHATEVER THE INPUT: true; the input reads as it did. -/
def fnReadyAgreesWithFullSpec : ChangeSpec := { name := "fnReadyAgreesWithFull", fn := fun _ => fun
  | [d] => { results := [.lit (.bool true)], args := [d] }
  | _ => none }
def fnReadyAgreesWithFullRow : OpenClaim := { program := "qxb6609374a", sum := "e0c9c5810f364ffc6856da3dfd8f4ae62305247434da2f040a6859b4abea0cf0", func := "example.com/tokenweir/tokenweir/zzlaws_scheduler_b1.FnReadyAgreesWithFull", spec := "fnReadyAgreesWithFull", unfollowed := true, recurses := true, apart := false }
def FnReadyAgreesWithFullSaid : Prop := fnReadyAgreesWithFullRow.holds Try.pinned (OpenSpec.ofChange fnReadyAgreesWithFullSpec)

/-- ITS FALSE NEIGHBOUR: 'it returns false'. Refute it at one input. -/
def fnReadyAgreesWithFullWrong : ChangeSpec := { name := "fnReadyAgreesWithFull", fn := fun _ => fun
  | [d] => { results := [.lit (.bool false)], args := [d] }
  | _ => none }
def FnReadyAgreesWithFullWrongFalsely : Prop := fnReadyAgreesWithFullRow.holds Try.pinned (OpenSpec.ofChange fnReadyAgreesWithFullWrong)

end Rows
end Go.Proofs.Qxb6609374a
