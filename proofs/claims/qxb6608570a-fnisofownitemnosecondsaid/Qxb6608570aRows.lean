/-
  No cell of these rows narrows 'for every input' (looked for: loops, veiled, ifaces, maps, wideKeys, modest, calm, conditions, laid).
  DERIVED. THE GIVEN ROWS OF THIS SEAT. 2 by the template 'for every input the law returns true; each argument reads behind the call as it read before'; 0 by the template 'total and deterministic' (their statements: Qxb6608570aTotals.lean).
  GIVEN WITH THE SEED: the statements are not yours to turn. If you find one false, say at which input.
  Laid BY PROGRAM, IN A SANDBOX (cutbox-rows.mjs): the forced cells as the released guide's own fill.sh prints them over the translation 1bce1ad1617a8e70… (all of the seat's roots in one cut). By AI agents, Wed Nov 11 2026. No macro, syntax, notation, axiom, sorry.
-/
import Derived.Test.Qxb6608570aChecked
import GoSem.Claim
import GoSem.ClaimJoined
import GoSem.ClaimMapViews
import Derived.JoinedTies
import Derived.KernelRfl
namespace Go.Proofs.Qxb6608570a
/- THE CELL 'sum', in the pinned program and in every row, IS THE sha256 OF THE DUMP (.gsa) THAT Qxb6608570aProg.lean LOADS. Nothing in Lean hashes anything: it is a label: what it is worth is what the hold of that sum in a sandbox is worth. -/
noncomputable def Try.pinned : Pinned := { name := "qxb6608570a", sum := "1bce1ad1617a8e70c653a127174f860acbb2a60bc0a1835948bf815b411ab5bf", checked := Try.checked }
namespace Rows
def none {H : Type} : Left H := { results := [], args := [] }

/-- 'zzlaws_root_b1.FnIsOfOwnItemNoSecond': WHATEVER THE INPUT: true; the input reads as it did. -/
def fnIsOfOwnItemNoSecondSpec : ChangeSpec := { name := "fnIsOfOwnItemNoSecond", fn := fun _ => fun
  | [d1, d2, d3, d4, d5, d6] => { results := [.lit (.bool true)], args := [d1, d2, d3, d4, d5, d6] }
  | _ => none }
def fnIsOfOwnItemNoSecondRow : OpenClaim := { program := "qxb6608570a", sum := "1bce1ad1617a8e70c653a127174f860acbb2a60bc0a1835948bf815b411ab5bf", func := "example.com/postwright/postwright/zzlaws_root_b1.FnIsOfOwnItemNoSecond", spec := "fnIsOfOwnItemNoSecond", apart := false }
def FnIsOfOwnItemNoSecondSaid : Prop := fnIsOfOwnItemNoSecondRow.holds Try.pinned (OpenSpec.ofChange fnIsOfOwnItemNoSecondSpec)

/-- ITS FALSE NEIGHBOUR: 'it returns false'. Refute it at one input. -/
def fnIsOfOwnItemNoSecondWrong : ChangeSpec := { name := "fnIsOfOwnItemNoSecond", fn := fun _ => fun
  | [d1, d2, d3, d4, d5, d6] => { results := [.lit (.bool false)], args := [d1, d2, d3, d4, d5, d6] }
  | _ => none }
def FnIsOfOwnItemNoSecondWrongFalsely : Prop := fnIsOfOwnItemNoSecondRow.holds Try.pinned (OpenSpec.ofChange fnIsOfOwnItemNoSecondWrong)

/-- 'zzlaws_root_b1.FnIsOfMutualIffSame': WHATEVER THE INPUT: true; the input reads as it did. -/
def fnIsOfMutualIffSameSpec : ChangeSpec := { name := "fnIsOfMutualIffSame", fn := fun _ => fun
  | [d1, d2, d3, d4, d5] => { results := [.lit (.bool true)], args := [d1, d2, d3, d4, d5] }
  | _ => none }
def fnIsOfMutualIffSameRow : OpenClaim := { program := "qxb6608570a", sum := "1bce1ad1617a8e70c653a127174f860acbb2a60bc0a1835948bf815b411ab5bf", func := "example.com/postwright/postwright/zzlaws_root_b1.FnIsOfMutualIffSame", spec := "fnIsOfMutualIffSame", apart := false }
def FnIsOfMutualIffSameSaid : Prop := fnIsOfMutualIffSameRow.holds Try.pinned (OpenSpec.ofChange fnIsOfMutualIffSameSpec)

/-- ITS FALSE NEIGHBOUR: 'it returns false'. Refute it at one input. -/
def fnIsOfMutualIffSameWrong : ChangeSpec := { name := "fnIsOfMutualIffSame", fn := fun _ => fun
  | [d1, d2, d3, d4, d5] => { results := [.lit (.bool false)], args := [d1, d2, d3, d4, d5] }
  | _ => none }
def FnIsOfMutualIffSameWrongFalsely : Prop := fnIsOfMutualIffSameRow.holds Try.pinned (OpenSpec.ofChange fnIsOfMutualIffSameWrong)

end Rows
end Go.Proofs.Qxb6608570a
