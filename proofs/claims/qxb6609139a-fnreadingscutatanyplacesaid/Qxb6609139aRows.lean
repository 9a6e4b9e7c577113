/-
  No cell of these rows narrows 'for every input' (looked for: loops, veiled, ifaces, maps, wideKeys, modest, calm, conditions, laid).
  DERIVED. THE GIVEN ROWS OF THIS SEAT. 3 by the template 'for every input the law returns true; each argument reads behind the call as it read before'; 0 by the template 'total and deterministic' (their statements: Qxb6609139aTotals.lean).
  GIVEN WITH THE SEED: the statements are not yours to turn. If you find one false, say at which input.
  Laid BY PROGRAM, IN A SANDBOX (cutbox-rows.mjs): the forced cells as the released guide's own fill.sh prints them over the translation b87ec1b41cac0b8b… (all of the seat's roots in one cut). By AI agents, Wed Nov 11 2026. No macro, syntax, notation, axiom, sorry.
-/
import Derived.Test.Qxb6609139aChecked
import GoSem.Claim
import GoSem.ClaimJoined
import GoSem.ClaimMapViews
import Derived.JoinedTies
import Derived.KernelRfl
namespace Go.Proofs.Qxb6609139a
/- THE CELL 'sum', in the pinned program and in every row, IS THE sha256 OF THE DUMP (.gsa) THAT Qxb6609139aProg.lean LOADS. Nothing in Lean hashes anything: it is a label: what it is worth is what the hold of that sum in a sandbox is worth. -/
noncomputable def Try.pinned : Pinned := { name := "qxb6609139a", sum := "b87ec1b41cac0b8bb915f3dc4612ca6634c2138a27f61e1016a37198aee3d4ae", checked := Try.checked }
namespace Rows
def none {H : Type} : Left H := { results := [], args := [] }

/-- 'zzlaws_root_b1.FnMatchIsLongestAreaPathPrefix': WHATEVER THE INPUT: true; the input reads as it did. -/
def fnMatchIsLongestAreaPathPrefixSpec : ChangeSpec := { name := "fnMatchIsLongestAreaPathPrefix", fn := fun _ => fun
  | [d1, d2] => { results := [.lit (.bool true)], args := [d1, d2] }
  | _ => none }
def fnMatchIsLongestAreaPathPrefixRow : OpenClaim := { program := "qxb6609139a", sum := "b87ec1b41cac0b8bb915f3dc4612ca6634c2138a27f61e1016a37198aee3d4ae", func := "example.com/authlatch/authlatch/zzlaws_root_b1.FnMatchIsLongestAreaPathPrefix", spec := "fnMatchIsLongestAreaPathPrefix", plainKeys := false, apart := false }
def FnMatchIsLongestAreaPathPrefixSaid : Prop := fnMatchIsLongestAreaPathPrefixRow.holds Try.pinned (OpenSpec.ofChange fnMatchIsLongestAreaPathPrefixSpec)

/-- ITS FALSE NEIGHBOUR: 'it returns false'. Refute it at one input. -/
def fnMatchIsLongestAreaPathPrefixWrong : ChangeSpec := { name := "fnMatchIsLongestAreaPathPrefix", fn := fun _ => fun
  | [d1, d2] => { results := [.lit (.bool false)], args := [d1, d2] }
  | _ => none }
def FnMatchIsLongestAreaPathPrefixWrongFalsely : Prop := fnMatchIsLongestAreaPathPrefixRow.holds Try.pinned (OpenSpec.ofChange fnMatchIsLongestAreaPathPrefixWrong)

/-- 'zzlaws_root_b1.FnReadingsCutAtAnyPlace': WHATEVER THE INPUT: true; the input reads as it did. -/
def fnReadingsCutAtAnyPlaceSpec : ChangeSpec := { name := "fnReadingsCutAtAnyPlace", fn := fun _ => fun
  | [d1, d2] => { results := [.lit (.bool true)], args := [d1, d2] }
  | _ => none }
def fnReadingsCutAtAnyPlaceRow : OpenClaim := { program := "qxb6609139a", sum := "b87ec1b41cac0b8bb915f3dc4612ca6634c2138a27f61e1016a37198aee3d4ae", func := "example.com/authlatch/authlatch/zzlaws_root_b1.FnReadingsCutAtAnyPlace", spec := "fnReadingsCutAtAnyPlace", inPlace := ["sync/atomic.StorePointer", "sync/atomic.LoadPointer"], plainKeys := false, apart := false }
def FnReadingsCutAtAnyPlaceSaid : Prop := fnReadingsCutAtAnyPlaceRow.holds Try.pinned (OpenSpec.ofChange fnReadingsCutAtAnyPlaceSpec)

/-- ITS FALSE NEIGHBOUR: 'it returns false'. Refute it at one input. -/
def fnReadingsCutAtAnyPlaceWrong : ChangeSpec := { name := "fnReadingsCutAtAnyPlace", fn := fun _ => fun
  | [d1, d2] => { results := [.lit (.bool false)], args := [d1, d2] }
  | _ => none }
def FnReadingsCutAtAnyPlaceWrongFalsely : Prop := fnReadingsCutAtAnyPlaceRow.holds Try.pinned (OpenSpec.ofChange fnReadingsCutAtAnyPlaceWrong)

/-- 'zzlaws_root_b1.FnReadingsAnswerIsTheCallersOwn': WHATEVER THE INPUT: true; the input reads as it did. -/
def fnReadingsAnswerIsTheCallersOwnSpec : ChangeSpec := { name := "fnReadingsAnswerIsTheCallersOwn", fn := fun _ => fun
  | [d] => { results := [.lit (.bool true)], args := [d] }
  | _ => none }
def fnReadingsAnswerIsTheCallersOwnRow : OpenClaim := { program := "qxb6609139a", sum := "b87ec1b41cac0b8bb915f3dc4612ca6634c2138a27f61e1016a37198aee3d4ae", func := "example.com/authlatch/authlatch/zzlaws_root_b1.FnReadingsAnswerIsTheCallersOwn", spec := "fnReadingsAnswerIsTheCallersOwn", inPlace := ["sync/atomic.StorePointer", "sync/atomic.LoadPointer"], plainKeys := false, apart := false }
def FnReadingsAnswerIsTheCallersOwnSaid : Prop := fnReadingsAnswerIsTheCallersOwnRow.holds Try.pinned (OpenSpec.ofChange fnReadingsAnswerIsTheCallersOwnSpec)

/-- ITS FALSE NEIGHBOUR: 'it returns false'. Refute it at one input. -/
def fnReadingsAnswerIsTheCallersOwnWrong : ChangeSpec := { name := "fnReadingsAnswerIsTheCallersOwn", fn := fun _ => fun
  | [d] => { results := [.lit (.bool false)], args := [d] }
  | _ => none }
def FnReadingsAnswerIsTheCallersOwnWrongFalsely : Prop := fnReadingsAnswerIsTheCallersOwnRow.holds Try.pinned (OpenSpec.ofChange fnReadingsAnswerIsTheCallersOwnWrong)

end Rows
end Go.Proofs.Qxb6609139a
