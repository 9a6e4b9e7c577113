/-
  SEAT b6609139a: zzLiveStores and readings.
-/
import Derived.Test.Qxb6609139aAtomic
import Derived.Deep.OwnRows
namespace Go.Proofs.Qxb6609139a
open Go.RowKit

theorem Try.info101 : (Try.prog.info? 101).map (fun i => (i.zero, i.size, i.bytes)) = some (some .nilIface, 1, 16) := by kernel_rfl
theorem Try.info32 : (Try.prog.info? 32).map (fun i => (i.zero, i.size, i.bytes)) = some (some (.pointer none), 1, 8) := by kernel_rfl

/-- ONE STORE AND ITS READING: a live one: a store in block L whose current reading is the block R; else nothing. Blocks from B on. -/
def Elem (w : World) (B : Nat) (live : Bool) (sv bv : Value) : Prop :=
  (live = true ∧ ∃ L R, sv = .iface 76 (ptrV L) ∧ bv = ptrV R ∧ B ≤ L ∧ B ≤ R ∧ w.cell? ⟨L, 5, none⟩ = some (ptrV R) ∧ ReadAt w R) ∨ (live = false ∧ sv = .nilIface ∧ bv = .pointer none)
theorem Elem.keep {w w' : World} {B : Nat} {live : Bool} {sv bv : Value} (hk : ∀ b, B ≤ b → b < w.heap.size → w'.heap[b]? = w.heap[b]?) (h : Elem w B live sv bv) : Elem w' B live sv bv := by
  rcases h with ⟨e, L, R, e1, e2, hL, hR, hc, hr⟩ | h
  · refine .inl ⟨e, L, R, e1, e2, hL, hR, ?_, ?_⟩
    · exact (World.cell?_of_block (w := w) (hk L hL (World.block_lt_of_cell? _ _ hc))).trans hc
    · unfold ReadAt at hr ⊢
      rw [hk R hR (Array.getElem?_eq_some_iff.1 hr).1]
      exact hr
  · exact .inr h

/-- What the flags hold. -/
def Bools (w : World) (a : Option Addr) (n : Nat) (V : Nat → Bool) : Prop := ∀ i, i < n → ∃ g, a = some ⟨g, 0, none⟩ ∧ w.cell? ⟨g, i, none⟩ = some (.bool (V i))

/-- What zzLiveStores's loop knows when k flags are done. -/
structure LS (w wr : World) (n k : Nat) (V : Nat → Bool) (SV BV : Nat → Value) : Prop where
  row1 : wr.rowIs w.heap.size 101 n SV
  row2 : wr.rowIs (w.heap.size + 1) 32 n BV
  el : ∀ j, j < k → Elem wr (w.heap.size + 2) (V j) (SV j) (BV j)
  rest : ∀ j, k ≤ j → SV j = .nilIface ∧ BV j = .pointer none
  bel : Below w.heap.size w wr
  size : w.heap.size + 2 ≤ wr.heap.size

/-- A live store and its reading are laid in two new blocks, the one's word on the other stored. -/
theorem laid17 (wr : World) (c : Array Value) (u : Value) (h5 : c[5]? = some u) :
    Calls Try.prog 17 #[.pointer (some ⟨wr.heap.size, 5, none⟩), ptrV (wr.heap.size + 1)] ((wr.alloc (.cells c 95)).alloc (.cells #[.nilIface] 98)) fun e w' => e = .returned (.tuple #[]) ∧ ReadAt w' (wr.heap.size + 1) ∧
      w'.cell? ⟨wr.heap.size, 5, none⟩ = some (ptrV (wr.heap.size + 1)) ∧ Below wr.heap.size wr w' ∧ wr.heap.size + 2 ≤ w'.heap.size := by
  have hc : ((wr.alloc (.cells c 95)).alloc (.cells #[.nilIface] 98)).cell? ⟨wr.heap.size, 5, none⟩ = some u := by
    rw [World.cell?_alloc_past _ _ _ (by simp), World.cell?_alloc_at _ _ _ _ rfl]; exact h5
  have hf : ((wr.alloc (.cells c 95)).alloc (.cells #[.nilIface] 98)).frozen? ⟨wr.heap.size, 5, none⟩ = false := by
    rw [World.frozen?_alloc_past _ _ _ (by simp), World.frozen?_alloc_at _ _ _ _ rfl]
  have hR : ReadAt ((wr.alloc (.cells c 95)).alloc (.cells #[.nilIface] 98)) (wr.heap.size + 1) := by
    have := heap_alloc_new (wr.alloc (.cells c 95)) (.cells #[.nilIface] 98)
    simpa [ReadAt] using this
  refine (store17 wr.heap.size (wr.heap.size + 1) u _ hc hf hR).mono ?_
  rintro e w' ⟨rfl, rfl⟩
  refine ⟨rfl, ?_, World.cell?_setCell_same _ _ _ hc, (((Below.refl _ _).alloc (Nat.le_refl _) _).alloc (by simp) _).setCell (Nat.le_refl _) _, by simp [World.setCell]⟩
  unfold ReadAt at hR ⊢
  rw [Below.heap_setCell _ _ _ _ (by simp)]
  exact hR

theorem LS.step_no {w wr : World} {n k : Nat} {V : Nat → Bool} {SV BV : Nat → Value} (h : LS w wr n k V SV BV) (hv : V k = false) : LS w wr n (k + 1) V SV BV :=
  ⟨h.row1, h.row2, fun j hj => by
    by_cases e : j = k
    · subst e
      exact .inr ⟨hv, h.rest j (Nat.le_refl _)⟩
    · exact h.el j (by omega), fun j hj => h.rest j (by omega), h.bel, h.size⟩

theorem LS.step_live {w wr w1 : World} {n k : Nat} {V : Nat → Bool} {SV BV : Nat → Value} (h : LS w wr n k V SV BV) (hv : V k = true) (hR : ReadAt w1 (wr.heap.size + 1)) (hc : w1.cell? ⟨wr.heap.size, 5, none⟩ = some (ptrV (wr.heap.size + 1)))
    (hb : Below wr.heap.size wr w1) (hz : wr.heap.size + 2 ≤ w1.heap.size) :
    LS w ((w1.setCell ⟨w.heap.size, k, none⟩ (.iface 76 (ptrV wr.heap.size))).setCell ⟨w.heap.size + 1, k, none⟩ (ptrV (wr.heap.size + 1))) n (k + 1) V (fun j => if j = k then .iface 76 (ptrV wr.heap.size) else SV j) (fun j => if j = k then ptrV (wr.heap.size + 1) else BV j) := by
  have keep : ∀ b, w.heap.size + 2 ≤ b → ((w1.setCell ⟨w.heap.size, k, none⟩ (.iface 76 (ptrV wr.heap.size))).setCell ⟨w.heap.size + 1, k, none⟩ (ptrV (wr.heap.size + 1))).heap[b]? = w1.heap[b]? := fun b hb' => by
    rw [Below.heap_setCell _ _ _ _ (by simp; omega), Below.heap_setCell _ _ _ _ (by simp; omega)]
  have r1 : w1.rowIs w.heap.size 101 n SV := h.row1.of_block (hb.block _ h.row1.lt)
  have r2 : w1.rowIs (w.heap.size + 1) 32 n BV := h.row2.of_block (hb.block _ h.row2.lt)
  have hsz := h.size
  refine ⟨(r1.set k _).setOther (by simp) _, (r2.setOther (by simp) _).set k _, fun j hj => ?_, fun j hj => ?_, ((h.bel.trans (hb.mono h.bel.size)).setCell (Nat.le_refl _) _).setCell (Nat.le_succ _) _, by simp [World.setCell]; omega⟩
  · by_cases e : j = k
    · subst e
      refine .inl ⟨hv, wr.heap.size, wr.heap.size + 1, by simp, by simp, hsz, by omega, ?_, ?_⟩
      · exact (World.cell?_of_block (w := w1) (keep wr.heap.size hsz)).trans hc
      · unfold ReadAt at hR ⊢
        rw [keep _ (by omega)]
        exact hR
    · simp only [e, if_false]
      exact (h.el j (by omega)).keep fun b h1 h2 => (keep b h1).trans (hb.block b h2)
  · have e : j ≠ k := by omega
    simp only [e, if_false]
    exact h.rest j (by omega)

set_option maxHeartbeats 1000000 in
theorem stores14 (a : Option Addr) (n c : Nat) (V : Nat → Bool) (w : World) (hn : n ≤ 1048576) (hV : Bools w a n V) :
    Calls Try.prog 14 #[.slice a n c] w fun e w' => e = .returned (.tuple #[.slice (some ⟨w.heap.size, 0, none⟩) n n, .slice (some ⟨w.heap.size + 1, 0, none⟩) n n]) ∧ ∃ SV BV, LS w w' n n V SV BV := by
  have HV : Hid (Bools w a n V) := hV
  clear hV
  have hmk1 := run_make_row' (P := Try.prog) 72 101 .nilIface 16 Try.underlying72 Try.info101 rfl .i64 .i64 n (by omega) (by omega)
  have hmk2 := run_make_row' (P := Try.prog) 29 32 (.pointer none) 8 Try.underlying29 Try.info32 rfl .i64 .i64 n (by omega) (by omega)
  go_enter Try.func14, Try.ntmps14
  go_wp2
  clear hmk1 hmk2
  go_loopw [6] (fun i wr => ∃ (k : Nat) (SV BV : Nat → Value), k ≤ n ∧ i = .int .i64 k ∧ LS w wr n k V SV BV) (fun i _ => n - (intOf i).toNat)
  case atStart =>
    refine ⟨0, fun _ => .nilIface, fun _ => .pointer none, Nat.zero_le _, rfl, (World.rowIs_made _ _ _ _).alloc _, ?_, fun j h => absurd h (Nat.not_lt_zero _), fun _ _ => ⟨rfl, rfl⟩, ((Below.refl _ _).alloc (Nat.le_refl _) _).alloc (by simp) _, by simp⟩
    have := World.rowIs_made (w.alloc (.cells (madeCells #[.nilIface] n) 101)) (.pointer none) n 32
    simpa using this
  case round =>
    obtain ⟨k, SV, BV, hk, rfl, hls⟩ := hrel
    by_cases hlt : k < n
    · obtain ⟨g, rfl, hg0⟩ := HV.out k hlt
      have hgw : g < w.heap.size := World.block_lt_of_cell? w _ hg0
      have hg := (hls.bel.cell (p := ⟨g, k, none⟩) hgw).trans hg0
      have c1 := hls.row1.cell hlt
      have f1 := hls.row1.frozen k
      have c2 := hls.row2.cell hlt
      have f2 := hls.row2.frozen k
      have b1 : w.heap.size < wr.heap.size := hls.row1.lt
      have b2 : w.heap.size + 1 < wr.heap.size := hls.row2.lt
      have HLS : Hid (LS w wr n k V SV BV) := hls
      clear hls HV hg0
      cases hv : V k
      · go_wp2
        go_roundw
        case rel => exact ⟨k + 1, SV, BV, by omega, by go_num, HLS.out.step_no hv⟩
        case measure => simp [intOf]; omega
      · go_wp2_with fail
        refine (laid17 wr _ _ rfl).mono ?_
        rintro e w1 ⟨rfl, hR, hc, hb, hz⟩
        have HF : Hid (ReadAt w1 (wr.heap.size + 1) ∧ w1.cell? ⟨wr.heap.size, 5, none⟩ = some (ptrV (wr.heap.size + 1)) ∧ Below wr.heap.size wr w1 ∧ wr.heap.size + 2 ≤ w1.heap.size) := ⟨hR, hc, hb, hz⟩
        have d1 := (hb.cell (p := ⟨w.heap.size, k, none⟩) b1).trans c1
        have g1 := (hb.frozen (p := ⟨w.heap.size, k, none⟩) b1).trans f1
        have d2 := (hb.cell (p := ⟨w.heap.size + 1, k, none⟩) b2).trans c2
        have g2 := (hb.frozen (p := ⟨w.heap.size + 1, k, none⟩) b2).trans f2
        clear hR hc hb c1 f1 c2 f2 hg
        go_wp2
        go_roundw
        case rel => exact ⟨k + 1, _, _, by omega, by go_num, HLS.out.step_live hv HF.out.1 HF.out.2.1 HF.out.2.2.1 HF.out.2.2.2⟩
        case measure => simp [intOf]; omega
    · go_wp2
      go_ret2
      have e : k = n := by omega
      subst e
      exact ⟨rfl, SV, BV, hls⟩
end Go.Proofs.Qxb6609139a
