/-
  'Rows.FnReadingsCutAtAnyPlaceSaid', PROVED. The frame: the guide's template for a law over slices ('Below'), at this function's number and types; the walk and its laws: ours.
-/
import Derived.Test.Qxb6609139aRows
import Derived.Test.Qxb6609139aPlaces
import Derived.WalkKit
import Derived.ProofKit
import Derived.OpenShut
import Derived.Deep.Grids
import Derived.ChangeOld
import Derived.Below
namespace Go.Proofs.Qxb6609139a.fnReadingsCutAtAnyPlace
open Go.ChangeShapes Go.WideShapes Go.ChangeAt Go.RowKit

theorem own : ownKnob Try.prog.godebug = none := by kernel_rfl
theorem laidOut : laidOutB Try.prog = true := by kernel_rfl
theorem cells4 : Try.prog.cellsOf 4 = 1 := by kernel_rfl

set_option maxHeartbeats 1000000 in
set_option maxRecDepth 100000 in
theorem lifted (os : Os) (started : os.Started) (H : Type) (enc : TypeId × Value → H) :
    ReturnsInHanded {} Try.checked os 4 .any (Rows.fnReadingsCutAtAnyPlaceSpec.pre6 enc Try.prog Try.f4 Rows.fnReadingsCutAtAnyPlaceRow.domain false) (Rows.fnReadingsCutAtAnyPlaceSpec.post enc Try.prog Try.f4 false true false false) := by
  refine returnsInHanded_of_change (C := Try.checked) own started (by kernel_rfl) Try.func4
    (ChangeSpec.witness6 (enc := enc) (C := Try.checked) false ⟨#[], #[.slice none 0 0, .int .i64 0], []⟩ 8 (by kernel_rfl) (by kernel_rfl) (by kernel_rfl) (by kernel_rfl)) ?_
  intro W base args ds gs before hval0 hW _ _
  have hval : ∀ (j : Nat) t v, Try.f4.params[j]? = some t → args[j]? = some v → Value.okWide Try.prog W .any base t v := hval0
  have hW' := hW
  obtain ⟨p, q, hA0, hV, rfl, _, _⟩ := hW
  have hA : DataW.TrodAll enc Try.prog W 0 (fun _ => true) true Try.f4.params.toList args.toList ds p := hA0
  rw [Try.params4] at hA hval
  obtain ⟨v0, v1, d0, d1, p0, p1, rfl, rfl, rfl, h0, h1⟩ := trodAll_two hA
  obtain ⟨rfl, rfl⟩ := trodVars_none hV
  obtain ⟨a0, len0, cap0, rfl⟩ := okWide_slice Try.underlying27 (hval 0 27 v0 rfl rfl)
  have k0 := h0
  have lt0 : ∀ x ∈ p0, x.block < W.heap.size := by obtain ⟨m, hm⟩ := k0; exact DataW.trod_lt m _ _ _ hm
  obtain ⟨B, hnil, hcell⟩ : ∃ B : Nat → Bool, (a0 = none → len0 = 0 ∧ cap0 = 0) ∧ ∀ x, a0 = some x → ∀ i, i < len0 → W.cell? (x.add i) = some (.bool (B i)) := by
    obtain ⟨fuel, hf⟩ := h0
    rcases Go.Deep.open_bools Try.underlying27 Try.underlying4 cells4 hf with ⟨hcs, _⟩ | ⟨x, l, c, B, hcs, _, hl, hm, _, hcell⟩
    · simp [Value.cells] at hcs
      obtain ⟨rfl, rfl, rfl⟩ := hcs
      exact ⟨fun _ => false, fun _ => ⟨rfl, rfl⟩, (fun _ h => by cases h)⟩
    · simp [Value.cells] at hcs
      obtain ⟨rfl, rfl, rfl⟩ := hcs
      exact ⟨B, (fun h => by cases h), fun y hy i hi => by cases hy; exact hcell i (by omega)⟩
  obtain ⟨a1, rfl, rfl, rfl, w1⟩ := open_int Try.underlying3 (hval 1 3 v1 rfl rfl) h1
  clear hA0 hval0
  have fin : ∀ (e : Ending) (W' : World), (e = .returned (.bool true) ∧ Below W.heap.size W W') → ∃ r, e = .returned r ∧ Rows.fnReadingsCutAtAnyPlaceSpec.post enc Try.prog Try.f4 false true false false W #[.slice a0 len0 cap0, .int .i64 a1] r W' := by
    rintro e W' ⟨rfl, bel⟩
    exact ⟨_, rfl, _, _, _, [], _, [], hW', trodAll_mk1 (shut_bool Try.underlying4 _), trodAll_mk2 (Below.trod laidOut (by kernel_rfl) (of_decide_eq_true (by kernel_rfl)) k0 bel lt0) (shut_int Try.underlying3 w1), rfl, bel.frame _, fun h => by cases h⟩
  by_cases hn : len0 ≤ 1048576
  · by_cases hk : 65536 < (len0 : Int) ∨ a1 < 0 ∨ (len0 : Int) < a1
    · exact (law4_out a0 len0 cap0 a1 W hn hk).mono fun e W' h => fin e W' h
    · obtain ⟨k, rfl⟩ := Int.eq_ofNat_of_zero_le (a := a1) (by omega)
      exact (law4 a0 len0 cap0 k B W (by omega) (by omega) hcell hnil).mono fun e W' h => fin e W' h
  · exact (law4_big a0 len0 cap0 a1 W (by omega)).mono fun e W' h => fin e W' h

theorem over : Rows.fnReadingsCutAtAnyPlaceRow.holds Try.pinned (OpenSpec.ofChange Rows.fnReadingsCutAtAnyPlaceSpec) :=
  OpenClaim.holds_of_wide 4 Try.f4 rfl rfl rfl rfl rfl rfl rfl ⟨rfl, rfl, rfl, rfl, rfl⟩ rfl rfl rfl rfl rfl (by kernel_rfl) Try.func4 (by kernel_rfl)
    (of_decide_eq_true (by kernel_rfl)) (by unfold Func.isWrapper; first | (rw [if_pos (by decide +kernel)]; kernel_rfl) | (rw [if_neg (by decide +kernel)]; exact ⟨rfl, rfl⟩))
    (fun os started H enc _ => lifted os started H enc)
end Go.Proofs.Qxb6609139a.fnReadingsCutAtAnyPlace
namespace Go.Proofs.Qxb6609139a
/-- ████ THE STATEMENT ████ -/
theorem fnReadingsCutAtAnyPlace_proved : Rows.FnReadingsCutAtAnyPlaceSaid := fnReadingsCutAtAnyPlace.over
end Go.Proofs.Qxb6609139a
