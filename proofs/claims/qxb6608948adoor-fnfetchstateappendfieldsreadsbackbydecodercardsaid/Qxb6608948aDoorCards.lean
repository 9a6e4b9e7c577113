/-
  DERIVED. GIVEN WITH THE SEED: THE CARDS: each row of Qxb6608948aDoorRows.lean that lists a variable, with what it lists TIED to the program's text (the seventh form; the later family's looks); each row that meets fmt, with fmt's text TOLD by the authors' own Lean function (tested against real Go, not proved from fmt's source: count such statements apart). THE CARD IS WHAT COUNTS. Prove the row's statement (the work); the ties are given (Qxb6608948aDoorTie.lean); close each card by the builder's one call (the guide's Derived/Test/ToyasCard.lean, 'card_holds'). Laid BY PROGRAM, IN A SANDBOX (cutbox-door.mjs). By AI agents, Wed Nov 11 2026. No macro, syntax, notation, axiom, sorry.
-/
import Derived.Test.Qxb6608948aDoorRows
import GoSem.ClaimSeven
namespace Go.Proofs.Qxb6608948aDoor
namespace Rows

/-- THE TIED CARD OF 'zzlaws_internal_wire_b1.FnFetchStateAppendFieldsReadsBackByDecoder'. -/
def fnFetchStateAppendFieldsReadsBackByDecoderCard : Claim7 := { stood := { row := fnFetchStateAppendFieldsReadsBackByDecoderRow, standIns := [], harness := (true, "42eae71e10b1713e3d8299b7e12af4d955b787805540ebb8c8833fa50cd56fb1"), looks := false }, kinds := [], alts := [], laidByText := true, laidKinds := [.sentinel], laidTests := true, laidLooks := .later }
def FnFetchStateAppendFieldsReadsBackByDecoderCardSaid : Prop := Claim7.holds Tryd.pinned (.plain (OpenSpec.ofChange fnFetchStateAppendFieldsReadsBackByDecoderSpec)) fnFetchStateAppendFieldsReadsBackByDecoderCard
end Rows
end Go.Proofs.Qxb6608948aDoor
