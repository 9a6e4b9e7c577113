/-
  SEAT b6609139a: ZZReadingsTwice and the walk of FnReadingsAnswerIsTheCallersOwn.
-/
import Derived.Test.Qxb6609139aReadings
import Derived.Laws.CopyOwn
import Derived.Deep.DeepCutAuto
import Derived.BigQuiet
import Derived.Deep.QuietTactic
namespace Go.Proofs.Qxb6609139a
open Go.RowKit

theorem LS.later {w wr w' : World} {n k : Nat} {V : Nat → Bool} {SV BV : Nat → Value} (h : LS w wr n k V SV BV) (hb : Below wr.heap.size wr w') : LS w w' n k V SV BV :=
  ⟨h.row1.of_block (hb.block _ h.row1.lt), h.row2.of_block (hb.block _ h.row2.lt), fun j hj => (h.el j hj).keep fun b _ h2 => hb.block b h2, h.rest, h.bel.trans (hb.mono h.bel.size), Nat.le_trans h.size hb.size⟩

/-- What the laws ask of the readings: a pointer at a live flag, nil at another. -/
def Fits (V : Nat → Bool) (BV : Nat → Value) (n : Nat) : Prop := ∀ j, j < n → (V j = true ∧ ∃ R, BV j = ptrV R) ∨ (V j = false ∧ BV j = .pointer none)
theorem LS.fits {w wr : World} {n : Nat} {V : Nat → Bool} {SV BV : Nat → Value} (h : LS w wr n n V SV BV) : Fits V BV n := fun j hj => by
  rcases h.el j hj with ⟨e, _, R, _, e2, _⟩ | ⟨e, _, e2⟩
  · exact .inl ⟨e, R, e2⟩
  · exact .inr ⟨e, e2⟩
theorem LS.src {w wr : World} {n : Nat} {V : Nat → Bool} {SV BV : Nat → Value} (h : LS w wr n n V SV BV) : ∀ i, i < n → ∃ G o, some (⟨w.heap.size, 0, none⟩ : Addr) = some ⟨G, o, none⟩ ∧ wr.cell? ⟨G, o + i, none⟩ = some (SV i) := fun i hi =>
  ⟨w.heap.size, 0, rfl, by rw [Nat.zero_add]; exact h.row1.cell hi⟩

theorem row_later {w w' : World} {g t n : Nat} {f : Nat → Value} (h : w.rowIs g t n f) (hb : Below w.heap.size w w') : w'.rowIs g t n f := h.of_block (hb.block _ h.lt)

set_option maxHeartbeats 1000000 in
theorem twice12 (a : Option Addr) (n c : Nat) (V : Nat → Bool) (w : World) (hn : n ≤ 1048576) (hV : Bools w a n V) :
    Calls Try.prog 12 #[.slice a n c] w fun e w' => ∃ g1 g2 g3 BV, e = .returned (.tuple #[.slice (some ⟨g1, 0, none⟩) n n, .slice (some ⟨g2, 0, none⟩) n n, .slice (some ⟨g3, 0, none⟩) n n]) ∧
      Fits V BV n ∧ w'.rowIs g1 32 n BV ∧ w'.rowIs g2 32 n BV ∧ w'.rowIs g3 32 n BV ∧ g3 < g1 ∧ g1 < g2 ∧ w.heap.size ≤ g3 ∧ Below w.heap.size w w' := by
  go_enter Try.func12, Try.ntmps12
  go_wp2_with fail
  refine (stores14 a n c V _ hn hV).mono ?_
  rintro e w1 ⟨rfl, SV, BV, hls⟩
  go_wp2_with fail
  refine (readings15 _ n n (w.heap.size + 2) V SV BV _ hn hls.src hls.el).mono ?_
  rintro e w2 ⟨rfl, hr1, hz2, hb2⟩
  have hls2 := hls.later hb2
  go_wp2_with fail
  refine (readings15 _ n n (w.heap.size + 2) V SV BV _ hn hls2.src hls2.el).mono ?_
  rintro e w3 ⟨rfl, hr2, hz3, hb3⟩
  have HX : Hid (Fits V BV n ∧ w3.rowIs w1.heap.size 32 n BV ∧ w3.rowIs w2.heap.size 32 n BV ∧ w3.rowIs (w.heap.size + 1) 32 n BV ∧ w.heap.size + 1 < w1.heap.size ∧ w1.heap.size < w2.heap.size ∧ w.heap.size ≤ w.heap.size + 1 ∧ Below w.heap.size w w3) :=
    ⟨hls.fits, row_later hr1 hb3, hr2, (hls2.later hb3).row2, hls.row2.lt, by omega, Nat.le_succ _, (hls2.later hb3).bel⟩
  clear hls hls2 hr1 hr2 hb2 hb3 hz2 hz3
  go_wp2
  go_ret3
  exact ⟨_, _, _, BV, rfl, HX.out⟩
end Go.Proofs.Qxb6609139a
