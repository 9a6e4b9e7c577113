/-
  SEAT b6609139a: ZZReadingsSplit.
-/
import Derived.Test.Qxb6609139aFlags
import Derived.Deep.RegionHeld3
namespace Go.Proofs.Qxb6609139a
open Go.RowKit

/-- readings of the part of the stores that begins at o and is m long. -/
theorem LS.read {w w1 : World} {n : Nat} {V : Nat → Bool} {SV BV : Nat → Value} (h : LS w w1 n n V SV BV) (hn : n ≤ 1048576) (A : Option Addr) (o m c : Nat) (hm : o + m ≤ n) (hA : 0 < m → A = some ⟨w.heap.size, o, none⟩) :
    Calls Try.prog 15 #[.slice A m c] w1 fun e w2 => e = .returned (.slice (some ⟨w1.heap.size, 0, none⟩) m m) ∧ w2.rowIs w1.heap.size 32 m (fun i => BV (o + i)) ∧ Below w1.heap.size w1 w2 ∧ LS w w2 n n V SV BV := by
  refine (readings15 A m c (w.heap.size + 2) (fun i => V (o + i)) (fun i => SV (o + i)) (fun i => BV (o + i)) w1 (by omega) (fun i hi => ⟨w.heap.size, o, hA (by omega), h.row1.cell (by omega)⟩) (fun i hi => h.el _ (by omega))).mono ?_
  rintro e w2 ⟨rfl, hr, hz, hb⟩
  exact ⟨rfl, hr, hb, h.later hb⟩

theorem LS.drew {w w1 : World} {n : Nat} {V : Nat → Bool} {SV BV : Nat → Value} (h : LS w w1 n n V SV BV) : LS w w1.drew n n V SV BV := h.later (Below.refl _ _).drew

/-- What the split says: the whole, the head, the tail, the built ones. -/
structure Cut (w w' : World) (n k : Nat) (V : Nat → Bool) (BV : Nat → Value) (g0 g1 g2 : Nat) : Prop where
  fit : Fits V BV n
  r0 : w'.rowIs g0 32 n (fun i => BV (0 + i))
  r1 : w'.rowIs g1 32 k (fun i => BV (0 + i))
  r2 : w'.rowIs g2 32 (n - k) (fun i => BV (k + i))
  rb : w'.rowIs (w.heap.size + 1) 32 n BV
  bel : Below w.heap.size w w'

theorem LS.cut {w w' : World} {n k : Nat} {V : Nat → Bool} {SV BV : Nat → Value} {g0 g1 g2 : Nat} (h : LS w w' n n V SV BV) (r0 : w'.rowIs g0 32 n (fun i => BV (0 + i))) (r1 : w'.rowIs g1 32 k (fun i => BV (0 + i)))
    (r2 : w'.rowIs g2 32 (n - k) (fun i => BV (k + i))) : Cut w w' n k V BV g0 g1 g2 := ⟨h.fits, r0, r1, r2, h.row2, h.bel⟩

theorem el72 : Try.prog.elem 72 = 101 := by kernel_rfl
theorem under72 : Try.prog.underlying 72 = some (.slice (Try.prog.elem 72)) := by rw [el72]; exact Try.underlying72
theorem head72 (n k g : Nat) (hk : k ≤ n) (wx : World) : (Instr.sliceAt 72 (.slice (some ⟨g, 0, none⟩) n n) none (some (.int .i64 k)) none).run Try.prog wx = .ok (.slice (some ⟨g, 0, none⟩) k n) wx := by
  rw [run_sliceAt_slice wx _ _ _ _ _ under72, run_slice_h wx _ _ _ _ under72 _ _ (by omega) (by omega), el72]
  simp [Result.andThen, sliced, Addr.add]
theorem tail72 (n k g : Nat) (hk : k ≤ n) (wx : World) : (Instr.sliceAt 72 (.slice (some ⟨g, 0, none⟩) n n) (some (.int .i64 k)) none none).run Try.prog wx = .ok (.slice (if n = k then some ⟨g, 0, none⟩ else some ⟨g, k, none⟩) (n - k) (n - k)) wx := by
  rw [run_sliceAt_slice wx _ _ _ _ _ under72, run_slice_l wx _ _ _ _ under72 _ _ (by omega) (by omega), el72]
  by_cases h0 : k = 0 <;> simp [Result.andThen, sliced, Addr.add, h0]

/-- Four results come back as one tuple. -/
theorem four_results {fn : Func} {t u v x : Tmp} (h : fn.results = #[.tmp t, .tmp u, .tmp v, .tmp x]) (tmps : Array Value) (P : Program) (w : World) :
    (results fn tmps).run P w = .ok (.tuple #[tmps.getD t undef, tmps.getD u undef, tmps.getD v undef, tmps.getD x undef]) w := by
  simp [results, h]

set_option maxRecDepth 100000 in
set_option maxHeartbeats 4000000 in
theorem split10 (a : Option Addr) (n c k : Nat) (V : Nat → Bool) (w : World) (hn : n ≤ 1048576) (hk : k ≤ n) (hV : Bools w a n V) :
    Calls Try.prog 10 #[.slice a n c, .int .i64 k] w fun e w' => ∃ g0 g1 g2 BV, e = .returned (.tuple #[.slice (some ⟨g0, 0, none⟩) n n, .slice (some ⟨g1, 0, none⟩) k k, .slice (some ⟨g2, 0, none⟩) (n - k) (n - k), .slice (some ⟨w.heap.size + 1, 0, none⟩) n n]) ∧
      Cut w w' n k V BV g0 g1 g2 := by
  have hs1 : ∀ wx, _ := head72 n k w.heap.size hk
  obtain ⟨A, hA, hs2⟩ : ∃ A : Option Addr, (0 < n - k → A = some ⟨w.heap.size, k, none⟩) ∧ ∀ wx : World, (Instr.sliceAt 72 (.slice (some ⟨w.heap.size, 0, none⟩) n n) (some (.int .i64 k)) none none).run Try.prog wx = .ok (.slice A (n - k) (n - k)) wx :=
    ⟨_, fun h => if_neg (by omega), tail72 n k w.heap.size hk⟩
  have HA : Hid (0 < n - k → A = some ⟨w.heap.size, k, none⟩) := hA
  clear hA
  have i0 : (0 : Int) ≤ (k : Int) := by omega
  have i1 : (k : Int) ≤ (n : Int) := by omega
  go_enter Try.func10, Try.ntmps10
  go_wp2_with fail
  refine (stores14 a n c V _ hn hV).mono ?_
  rintro e w1 ⟨rfl, SV, BV, hls⟩
  have HLS : Hid (LS w w1 n n V SV BV) := hls
  clear hls hV
  go_wp2_with fail
  go_region_held3 (fun wx => LS w wx n n V SV BV) (first | exact HLS.out.drew | assumption)
    (first | (go_at_call_of 15 (Value.slice (some ⟨w.heap.size, 0, none⟩) n n); refine (LS.read (o := 0) (by assumption) hn _ _ _ (by omega) (fun _ => rfl)).mono ?_; rintro e w' ⟨rfl, hr0, hb0, hst⟩) | (go_at_call_of 15 (Value.slice (some ⟨w.heap.size, 0, none⟩) k n); refine (LS.read (o := 0) (by assumption) hn _ _ _ (by omega) (fun _ => rfl)).mono ?_; rintro e w' ⟨rfl, hr1, hb1, hst⟩) | (go_at_call_of 15 (Value.slice A (n - k) (n - k)); refine (LS.read (o := k) (by assumption) hn _ _ _ (by omega) HA.out).mono ?_; rintro e w' ⟨rfl, hr2, hb2, hst⟩))
  have HX : Hid (Cut w w' n k V BV w1.heap.size _ _) := LS.cut hst (row_later (row_later hr0 hb1) hb2) (row_later hr1 hb2) hr2
  clear hr0 hb0 hr1 hb1 hr2 hb2 hst HLS HA
  go_wp2
  try simp only [Exit.inBlock, Exit.then]
  refine bodyPost_ret (four_results rfl _ _ _) rfl ?_
  exact ⟨_, _, _, BV, rfl, HX.out⟩
end Go.Proofs.Qxb6609139a
