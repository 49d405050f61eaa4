/-
  No cell of these rows narrows 'for every input' (looked for: loops, veiled, ifaces, maps, wideKeys, modest, calm, conditions, laid).
  DERIVED. THE GIVEN ROWS OF THIS SEAT. 2 by the template 'for every input the law returns true; each argument reads behind the call as it read before'; 0 by the template 'total and deterministic' (their statements: Qxb6612282aTotals.lean).
  GIVEN WITH THE SEED: the statements are not yours to turn. If you find one false, say at which input.
  Laid BY PROGRAM, IN A SANDBOX (cutbox-rows.mjs): the forced cells as the released guide's own fill.sh prints them over the translation 59e126a332d405f2… (all of the seat's roots in one cut). By AI agents, Wed Nov 11 2026. No macro, syntax, notation, axiom, sorry.
-/
import Derived.Test.Qxb6612282aChecked
import GoSem.Claim
import GoSem.ClaimJoined
import GoSem.ClaimMapViews
import Derived.JoinedTies
import Derived.KernelRfl
namespace Go.Proofs.Qxb6612282a
/- THE CELL 'sum', in the pinned program and in every row, IS THE sha256 OF THE DUMP (.gsa) THAT Qxb6612282aProg.lean LOADS. Nothing in Lean hashes anything: it is a label: what it is worth is what the hold of that sum in a sandbox is worth. -/
noncomputable def Try.pinned : Pinned := { name := "qxb6612282a", sum := "59e126a332d405f2cca93b4fc9c07b13c72150908ce3bdfd52a1389b2589e324", checked := Try.checked }
namespace Rows
def none {H : Type} : Left H := { results := [], args := [] }

/-- 'zzlaws_root_b1.FnTakePlaceCountsPlaces': WHATEVER THE INPUT: true; the input reads as it did. -/
def fnTakePlaceCountsPlacesSpec : ChangeSpec := { name := "fnTakePlaceCountsPlaces", fn := fun _ => fun
  | [d1, d2] => { results := [.lit (.bool true)], args := [d1, d2] }
  | _ => none }
def fnTakePlaceCountsPlacesRow : OpenClaim := { program := "qxb6612282a", sum := "59e126a332d405f2cca93b4fc9c07b13c72150908ce3bdfd52a1389b2589e324", func := "example.com/belay/belay/zzlaws_root_b1.FnTakePlaceCountsPlaces", spec := "fnTakePlaceCountsPlaces", inPlace := ["sync/atomic.LoadInt64"], apart := false }
def FnTakePlaceCountsPlacesSaid : Prop := fnTakePlaceCountsPlacesRow.holds Try.pinned (OpenSpec.ofChange fnTakePlaceCountsPlacesSpec)

/-- ITS FALSE NEIGHBOUR: 'it returns false'. Refute it at one input. -/
def fnTakePlaceCountsPlacesWrong : ChangeSpec := { name := "fnTakePlaceCountsPlaces", fn := fun _ => fun
  | [d1, d2] => { results := [.lit (.bool false)], args := [d1, d2] }
  | _ => none }
def FnTakePlaceCountsPlacesWrongFalsely : Prop := fnTakePlaceCountsPlacesRow.holds Try.pinned (OpenSpec.ofChange fnTakePlaceCountsPlacesWrong)

/-- 'zzlaws_root_b1.FnTakePlaceNewLimitStartsEmpty': WHATEVER THE INPUT: true; the input reads as it did. -/
def fnTakePlaceNewLimitStartsEmptySpec : ChangeSpec := { name := "fnTakePlaceNewLimitStartsEmpty", fn := fun _ => fun
  | [d1, d2, d3, d4] => { results := [.lit (.bool true)], args := [d1, d2, d3, d4] }
  | _ => none }
def fnTakePlaceNewLimitStartsEmptyRow : OpenClaim := { program := "qxb6612282a", sum := "59e126a332d405f2cca93b4fc9c07b13c72150908ce3bdfd52a1389b2589e324", func := "example.com/belay/belay/zzlaws_root_b1.FnTakePlaceNewLimitStartsEmpty", spec := "fnTakePlaceNewLimitStartsEmpty", inPlace := ["sync/atomic.LoadInt64"], apart := false }
def FnTakePlaceNewLimitStartsEmptySaid : Prop := fnTakePlaceNewLimitStartsEmptyRow.holds Try.pinned (OpenSpec.ofChange fnTakePlaceNewLimitStartsEmptySpec)

/-- ITS FALSE NEIGHBOUR: 'it returns false'. Refute it at one input. -/
def fnTakePlaceNewLimitStartsEmptyWrong : ChangeSpec := { name := "fnTakePlaceNewLimitStartsEmpty", fn := fun _ => fun
  | [d1, d2, d3, d4] => { results := [.lit (.bool false)], args := [d1, d2, d3, d4] }
  | _ => none }
def FnTakePlaceNewLimitStartsEmptyWrongFalsely : Prop := fnTakePlaceNewLimitStartsEmptyRow.holds Try.pinned (OpenSpec.ofChange fnTakePlaceNewLimitStartsEmptyWrong)

end Rows
end Go.Proofs.Qxb6612282a
