/-
  NARROWER THAN 'FOR EVERY INPUT', by the rows' own cells (each row's printed sentence says how): FnFetchStateAppendFieldsReadsBackByDecoder: ifaces, laid.
  DERIVED. THE GIVEN ROWS OF THIS SEAT. 1 by the template 'for every input the law returns true; each argument reads behind the call as it read before'; 0 by the template 'total and deterministic' (their statements: Qxb6608948aDoorTotals.lean).
  GIVEN WITH THE SEED: the statements are not yours to turn. If you find one false, say at which input.
  Laid BY PROGRAM, IN A SANDBOX (cutbox-rows.mjs): the forced cells as the released guide's own fill.sh prints them over the translation e367cd9f7d1d08b7… (all of the seat's roots in one cut). By AI agents, Wed Nov 11 2026. No macro, syntax, notation, axiom, sorry.
-/
import Derived.Test.Qxb6608948aDoorChecked
import GoSem.Claim
import GoSem.ClaimJoined
import GoSem.ClaimMapViews
import Derived.JoinedTies
import Derived.KernelRfl
namespace Go.Proofs.Qxb6608948aDoor
/- THE CELL 'sum', in the pinned program and in every row, IS THE sha256 OF THE DUMP (.gsa) THAT Qxb6608948aDoorProg.lean LOADS. Nothing in Lean hashes anything: it is a label: what it is worth is what the hold of that sum in a sandbox is worth. -/
noncomputable def Tryd.pinned : Pinned := { name := "qxb6608948adoor", sum := "e367cd9f7d1d08b732f4caaa3a47afab8f126970b4609de415450d8ccf753ad2", checked := Tryd.checked }
namespace Rows
def none {H : Type} : Left H := { results := [], args := [] }

/- WHAT THE LISTED PACKAGE-LEVEL VARIABLES READ AS WHEN THE CALL BEGINS. Each datum BY PROGRAM (the guide's laid-datum.mjs) off the statement by which the dump's own 'gosem.cut.vars' lays the variable. In a bare row this is a premise. The card (Qxb6608948aDoorCards.lean) ties it to the program's text. -/
def laid_example_com_redoubt_redoubt_internal_wire_errShort {H : Type} : DataW H := .iface "*errors.errorString" (.ptr (.agg [.lit (.string [101, 110, 100, 115, 32, 101, 97, 114, 108, 121])]))

/-- 'zzlaws_internal_wire_b1.FnFetchStateAppendFieldsReadsBackByDecoder': WHATEVER THE INPUT: true; the input reads as it did. -/
def fnFetchStateAppendFieldsReadsBackByDecoderSpec : ChangeSpec := { name := "fnFetchStateAppendFieldsReadsBackByDecoder", vars := ["example.com/redoubt/redoubt/internal/wire.errShort"], fn := fun _ => fun
  | [d1, d2, g1] => { results := [.lit (.bool true)], args := [d1, d2], vars := [g1] }
  | _ => none }
def fnFetchStateAppendFieldsReadsBackByDecoderRow : OpenClaim := { program := "qxb6608948adoor", sum := "e367cd9f7d1d08b732f4caaa3a47afab8f126970b4609de415450d8ccf753ad2", func := "example.com/redoubt/redoubt/zzlaws_internal_wire_b1.FnFetchStateAppendFieldsReadsBackByDecoder", spec := "fnFetchStateAppendFieldsReadsBackByDecoder", named := ["encoding/binary.BigEndian", "example.com/redoubt/redoubt/internal/wire.errShort"], ifaces := true, apart := false, laid := [("example.com/redoubt/redoubt/internal/wire.errShort", laid_example_com_redoubt_redoubt_internal_wire_errShort)] }
def FnFetchStateAppendFieldsReadsBackByDecoderSaid : Prop := fnFetchStateAppendFieldsReadsBackByDecoderRow.holds Tryd.pinned (OpenSpec.ofChange fnFetchStateAppendFieldsReadsBackByDecoderSpec)

/-- ITS FALSE NEIGHBOUR: 'it returns false'. Refute it at one input. -/
def fnFetchStateAppendFieldsReadsBackByDecoderWrong : ChangeSpec := { name := "fnFetchStateAppendFieldsReadsBackByDecoder", vars := ["example.com/redoubt/redoubt/internal/wire.errShort"], fn := fun _ => fun
  | [d1, d2, g1] => { results := [.lit (.bool false)], args := [d1, d2], vars := [g1] }
  | _ => none }
def FnFetchStateAppendFieldsReadsBackByDecoderWrongFalsely : Prop := fnFetchStateAppendFieldsReadsBackByDecoderRow.holds Tryd.pinned (OpenSpec.ofChange fnFetchStateAppendFieldsReadsBackByDecoderWrong)

end Rows
end Go.Proofs.Qxb6608948aDoor
