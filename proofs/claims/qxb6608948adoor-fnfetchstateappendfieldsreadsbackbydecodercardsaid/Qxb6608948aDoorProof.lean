/-
  'Rows.FnFetchStateAppendFieldsReadsBackByDecoderCardSaid', PROVED. The row's frame: after the guide's template and its worked MapyProofs (the witness), 'Below.trodVars' (the listed variable, which the law never comes to, reads as it did); the card: the builder's one call over the given tie.
-/
import Derived.Test.Qxb6608948aDoorCards
import Derived.Test.Qxb6608948aDoorTie
import Derived.Test.Qxb6608948aDoorWalk
import Derived.ProofKit
import Derived.LaidMore
import Derived.OpenShut
import Derived.OpenVars
import Derived.Stop.Joined
import Derived.SevenTiedAt
namespace Go.Proofs.Qxb6608948aDoor
open Go.ChangeShapes Go.WideShapes Go.ChangeAt Go.RowKit

theorem own : ownKnob Tryd.prog.godebug = none := by kernel_rfl
theorem laidOut : laidOutB Tryd.prog = true := by kernel_rfl
theorem Tryd.cells5 : Tryd.prog.cellsOf 5 = 1 := by kernel_rfl

/-- The door's own heap meets the condition: closed facts. -/
theorem door_met (os : Os) (args : Array Value) : laidMetH Tryd.prog Rows.fnFetchStateAppendFieldsReadsBackByDecoderRow.laid ((World.doorLaid Tryd.prog 28 os).forCall (fun _ _ => 0) ⟨#[], args, []⟩).memory :=
  laidMetH_of_parts3 (fuel := 8) (laidMet_of_run' 8 (by kernel_rfl) (by kernel_rfl)) (by kernel_rfl) (by kernel_rfl)

set_option maxRecDepth 100000 in
theorem lifted (os : Os) (started : os.Started) (H : Type) (enc : TypeId × Value → H) :
    ReturnsInHanded {} Tryd.checked os 3 .any (fun w args => (Rows.fnFetchStateAppendFieldsReadsBackByDecoderSpec.pre enc Tryd.prog Tryd.f3 [] false w args ∧ laidMetH Tryd.prog Rows.fnFetchStateAppendFieldsReadsBackByDecoderRow.laid w) ∧ sizedMet enc Tryd.prog Tryd.f3 (OpenSpec.ofChange Rows.fnFetchStateAppendFieldsReadsBackByDecoderSpec) false w args)
      (Rows.fnFetchStateAppendFieldsReadsBackByDecoderSpec.post enc Tryd.prog Tryd.f3 false true false false) := by
  refine returnsInHanded_of_change_and (C := Tryd.checked) (X := fun w _ => laidMetH Tryd.prog Rows.fnFetchStateAppendFieldsReadsBackByDecoderRow.laid w) (fun _ _ _ hh h => h.of_heap hh) own started (by kernel_rfl) Tryd.func3
    (ChangeSpec.witness_shaped (enc := enc) (C := Tryd.checked) (os := os) (X := fun w _ => laidMetH Tryd.prog Rows.fnFetchStateAppendFieldsReadsBackByDecoderRow.laid w) false (World.doorLaid Tryd.prog 28 os) #[.int .u64 0, .slice none 0 0] 8 rfl (World.shaped_of_RefB (by kernel_rfl) (by kernel_rfl)) (by kernel_rfl) (by kernel_rfl) (by kernel_rfl) (door_met os _)) ?_
  intro W base args ds gs before hval0 hW _ _ _ _
  have hval : ∀ (j : Nat) t v, Tryd.f3.params[j]? = some t → args[j]? = some v → Value.okWide Tryd.prog W .any base t v := hval0
  have hW' := hW
  obtain ⟨p, q, hA0, hV0, rfl, hfz, hnd⟩ := hW
  have hA : DataW.TrodAll enc Tryd.prog W 0 (fun _ => true) true Tryd.f3.params.toList args.toList ds p := hA0
  have hV : DataW.TrodVars enc Tryd.prog W (fun _ => true) Rows.fnFetchStateAppendFieldsReadsBackByDecoderSpec.vars gs q := hV0
  rw [Tryd.params3] at hA hval
  obtain ⟨v0, v1, d0, d1, p0, p1, rfl, rfl, rfl, h0, h1⟩ := trodAll_two hA
  obtain ⟨g1, rfl⟩ : ∃ g1, gs = [g1] := by
    obtain ⟨_, _, _, _, d, _, e, _⟩ := trodVars_one hV
    exact ⟨d, e⟩
  obtain ⟨v, rfl, rfl, rfl, w0⟩ := open_int Tryd.underlying22 (hval 0 22 v0 rfl rfl) h0
  obtain ⟨a1, len1, cap1, rfl⟩ := okWide_slice Tryd.underlying23 (hval 1 23 v1 rfl rfl)
  have k1 := h1
  have lt1 : ∀ x ∈ p1, x.block < W.heap.size := by obtain ⟨m, hm⟩ := k1; exact DataW.trod_lt m _ _ _ hm
  obtain ⟨z1, hnil, hcell⟩ : ∃ zs : List Int, (a1 = none → len1 = 0 ∧ cap1 = 0) ∧ ∀ x, a1 = some x → ∀ i, i < len1 → W.cell? (x.add i) = some (.int .u8 (zs.getD i 0)) := by
    obtain ⟨fuel, hf⟩ := h1
    rcases open_ints Tryd.underlying23 Tryd.underlying5 Tryd.cells5 hf with ⟨hcs, _⟩ | ⟨x, l, c, zs, hcs, _, hl, hm, hz, _, hcell, hwz⟩
    · simp [Value.cells] at hcs
      obtain ⟨rfl, rfl, rfl⟩ := hcs
      exact ⟨[], fun _ => ⟨rfl, rfl⟩, (fun _ h => by cases h)⟩
    · simp [Value.cells] at hcs
      obtain ⟨rfl, rfl, rfl⟩ := hcs
      simp at hz
      exact ⟨zs, (fun h => by cases h), fun y hy i hi => by cases hy; exact hcell i (by omega)⟩
  have hv0 : 0 ≤ v ∧ v < 18446744073709551616 := by have := bounds_u64 w0; omega
  clear hA0 hval0
  have fin : ∀ (e : Ending) (W' : World), (e = .returned (.bool true) ∧ Below W.heap.size W W') → ∃ r, e = .returned r ∧ Rows.fnFetchStateAppendFieldsReadsBackByDecoderSpec.post enc Tryd.prog Tryd.f3 false true false false W #[.int .u64 v, .slice a1 len1 cap1] r W' := by
    rintro e W' ⟨rfl, bel⟩
    exact ⟨_, rfl, _, _, _, [], _, q, hW', trodAll_mk1 (shut_bool Tryd.underlying4 _), trodAll_mk2 (shut_int Tryd.underlying22 w0) (Below.trod laidOut (by kernel_rfl) (of_decide_eq_true (by kernel_rfl)) k1 bel lt1), Below.trodVars laidOut bel (by kernel_rfl) hV, bel.frame _, fun h => by cases h⟩
  by_cases hn : len1 ≤ 1048576
  · exact (walk v hv0.1 hv0.2 a1 len1 cap1 (fun i => z1.getD i 0) W hn hnil hcell).mono fun e W' h => fin e W' h
  · exact (walk_big v a1 len1 cap1 W (by omega)).mono fun e W' h => fin e W' h

theorem row_holds : Rows.FnFetchStateAppendFieldsReadsBackByDecoderSaid :=
  OpenClaim.holds_of_wide 3 Tryd.f3 rfl rfl rfl rfl rfl rfl rfl ⟨rfl, rfl, rfl, rfl, rfl⟩ rfl rfl rfl rfl rfl (by kernel_rfl) Tryd.func3 (by kernel_rfl)
    (of_decide_eq_true (by kernel_rfl)) (by unfold Func.isWrapper; first | (rw [if_pos (by decide +kernel)]; kernel_rfl) | (rw [if_neg (by decide +kernel)]; exact ⟨rfl, rfl⟩))
    (fun os started H enc _ => lifted os started H enc)

/-- ████ THE CARD ████ -/
theorem card_proved : Rows.FnFetchStateAppendFieldsReadsBackByDecoderCardSaid :=
  Claim7.holds_tied_plain_at .later [] [.sentinel] true Rows.fnFetchStateAppendFieldsReadsBackByDecoderCard.stood.harness false
    row_holds (fun _ h => by cases h) (by kernel_rfl) (fun _ h => by cases h) fnFetchStateAppendFieldsReadsBackByDecoder_row_tie rfl ⟨rfl, rfl⟩ (by kernel_rfl) rfl
    (fun f fn hf hfn => by
      obtain rfl : f = 3 := Option.some.inj ((show Tryd.prog.funcNamed Rows.fnFetchStateAppendFieldsReadsBackByDecoderRow.func = some 3 by kernel_rfl).symm.trans hf) |>.symm
      obtain rfl : fn = Tryd.f3 := (Option.some.inj (Tryd.func3.symm.trans hfn)).symm
      exact ⟨by kernel_rfl, fun j t ht => by
        rw [Tryd.params3] at ht
        have hm : t ∈ [22, 23] := by simpa using Array.mem_of_getElem? ht
        have hall : ([22, 23].all fun u => !Tryd.prog.wantsStandIn u) = true := by kernel_rfl
        exact (show Tryd.prog.wantsStandIn t = false by simpa using List.all_eq_true.1 hall t hm)⟩)
    (by kernel_rfl)
end Go.Proofs.Qxb6608948aDoor
