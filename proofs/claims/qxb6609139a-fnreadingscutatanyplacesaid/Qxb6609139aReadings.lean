/-
  SEAT b6609139a: readings.
-/
import Derived.Test.Qxb6609139aStores
namespace Go.Proofs.Qxb6609139a
open Go.RowKit

theorem ta76 (a : Option Addr) (w : World) : (Instr.typeAssert (.iface 76 (.pointer a)) 101 76 true).run Try.prog w = .ok (.tuple #[.pointer a, .bool true]) w := by kernel_rfl
theorem taNil (w : World) : (Instr.typeAssert .nilIface 101 76 true).run Try.prog w = .ok (.tuple #[.pointer none, .bool false]) w := by kernel_rfl

/-- What the round does to the new row. -/
theorem read_step {wr : World} {g m k : Nat} {BV : Nat → Value} (h : wr.rowIs g 32 m (fun j => if j < k then BV j else .pointer none)) :
    (wr.setCell ⟨g, k, none⟩ (BV k)).rowIs g 32 m (fun j => if j < k + 1 then BV j else .pointer none) := by
  refine (h.set k (BV k)).congr fun j hj => ?_
  by_cases e : j = k
  · subst e; simp
  · simp only [e, if_false]
    by_cases hk : j < k
    · rw [if_pos hk, if_pos (by omega)]
    · rw [if_neg hk, if_neg (by omega)]
theorem read_stay {wr : World} {g m k : Nat} {BV : Nat → Value} (h : wr.rowIs g 32 m (fun j => if j < k then BV j else .pointer none)) (hk : BV k = .pointer none) :
    wr.rowIs g 32 m (fun j => if j < k + 1 then BV j else .pointer none) := by
  refine h.congr fun j hj => ?_
  by_cases e : j = k
  · subst e; simp [hk]
  · by_cases hk : j < k
    · rw [if_pos hk, if_pos (by omega)]
    · rw [if_neg hk, if_neg (by omega)]

set_option maxHeartbeats 1000000 in
theorem readings15 (a : Option Addr) (m c B : Nat) (V : Nat → Bool) (SV BV : Nat → Value) (w : World) (hm : m ≤ 1048576) (hS : ∀ i, i < m → ∃ G o, a = some ⟨G, o, none⟩ ∧ w.cell? ⟨G, o + i, none⟩ = some (SV i)) (hE : ∀ i, i < m → Elem w B (V i) (SV i) (BV i)) :
    Calls Try.prog 15 #[.slice a m c] w fun e w' => e = .returned (.slice (some ⟨w.heap.size, 0, none⟩) m m) ∧ w'.rowIs w.heap.size 32 m BV ∧ w'.heap.size = w.heap.size + 1 ∧ Below w.heap.size w w' := by
  have HS : Hid (∀ i, i < m → ∃ G o, a = some ⟨G, o, none⟩ ∧ w.cell? ⟨G, o + i, none⟩ = some (SV i)) := hS
  have HE : Hid (∀ i, i < m → Elem w B (V i) (SV i) (BV i)) := hE
  clear hS hE
  have hmk := run_make_row' (P := Try.prog) 29 32 (.pointer none) 8 Try.underlying29 Try.info32 rfl .i64 .i64 m (by omega) (by omega)
  have t1 := ta76
  have t2 := taNil
  go_enter Try.func15, Try.ntmps15
  go_wp2
  clear hmk
  go_loopw [13] (fun i wr => ∃ k : Nat, k ≤ m ∧ i = .int .i64 k ∧ wr.rowIs w.heap.size 32 m (fun j => if j < k then BV j else .pointer none) ∧ wr.heap.size = w.heap.size + 1 ∧ Below w.heap.size w wr) (fun i _ => m - (intOf i).toNat)
  case atStart => exact ⟨0, Nat.zero_le _, rfl, (World.rowIs_made _ _ _ _).congr (fun _ _ => by simp), by simp, (Below.refl _ _).alloc (Nat.le_refl _) _⟩
  case round =>
    obtain ⟨k, hk, rfl, hrow, hsz, hB⟩ := hrel
    by_cases hlt : k < m
    · obtain ⟨G, o, rfl, hs0⟩ := HS.out k hlt
      have hs := (hB.cell (p := ⟨G, o + k, none⟩) (World.block_lt_of_cell? w _ hs0)).trans hs0
      have hd := hrow.cell hlt
      have hf := hrow.frozen k
      have HX : Hid (wr.rowIs w.heap.size 32 m (fun j => if j < k then BV j else .pointer none) ∧ wr.heap.size = w.heap.size + 1 ∧ Below w.heap.size w wr) := ⟨hrow, hsz, hB⟩
      rcases HE.out k hlt with ⟨_, L, R, e1, e2, hL, hR, hc0, hr0⟩ | ⟨_, e1, e2⟩
      · have hc := (hB.cell (p := ⟨L, 5, none⟩) (World.block_lt_of_cell? w _ hc0)).trans hc0
        have hr : ReadAt wr R := by
          unfold ReadAt at hr0 ⊢
          rw [hB.block R (Array.getElem?_eq_some_iff.1 hr0).1]
          exact hr0
        rw [e1] at hs
        have E2 : Hid (BV k = ptrV R) := e2
        have HRd : Hid (ReadAt wr R) := hr
        clear hrow hsz hB HS HE hs0 hc0 hr0 e1 e2 hr
        go_wp2_with (go_at_call 18; refine (load18 L R _ hc HRd.out).mono ?_; rintro e w' ⟨rfl, hw⟩; subst w')
        go_roundw
        case rel =>
          refine ⟨k + 1, by omega, by go_num, ?_, by simpa [World.setCell] using HX.out.2.1, HX.out.2.2.setCell (Nat.le_refl _) _⟩
          have := read_step HX.out.1
          rwa [E2.out] at this
        case measure => simp [intOf]; omega
      · rw [e1] at hs
        have E2 : Hid (BV k = .pointer none) := e2
        clear hrow hsz hB HS HE hs0 e1 e2
        go_wp2
        go_roundw
        case rel => exact ⟨k + 1, by omega, by go_num, read_stay HX.out.1 E2.out, HX.out.2.1, HX.out.2.2⟩
        case measure => simp [intOf]; omega
    · go_wp2
      go_ret
      exact ⟨rfl, hrow.congr (fun j hj => by rw [if_pos (by omega)]), hsz, hB⟩
end Go.Proofs.Qxb6609139a
