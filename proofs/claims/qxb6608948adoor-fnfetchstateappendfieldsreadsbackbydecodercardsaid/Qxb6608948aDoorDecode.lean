/-
  SEAT b6608948aD: the decoder: NewDecoder, take, Uint64, ZZDecoderRest, ZZDecoderErr.
-/
import Derived.Test.Qxb6608948aDoorClone
import Derived.Lib.EndianBits
namespace Go.Proofs.Qxb6608948aDoor
open Go.RowKit

theorem cell_new {W : World} {a : Addr} {v : Value} (o : Obj) (h : W.cell? a = some v) : (W.alloc o).cell? a = some v :=
  (World.cell?_alloc_lt _ _ _ (World.block_lt_of_cell? W a h)).trans h

set_option maxHeartbeats 4000000 in
set_option maxRecDepth 100000 in
/-- binary.BigEndian.Uint64 (after the guide's shelf text BEUint64, at this dump). -/
theorem uint14 (g o n c : Nat) (b0 b1 b2 b3 b4 b5 b6 b7 : Int) (w : World) (hn : 8 ≤ n)
    (c0 : w.cell? ⟨g, o, none⟩ = some (.int .u8 b0)) (c1 : w.cell? ⟨g, o + 1, none⟩ = some (.int .u8 b1)) (c2 : w.cell? ⟨g, o + 2, none⟩ = some (.int .u8 b2)) (c3 : w.cell? ⟨g, o + 3, none⟩ = some (.int .u8 b3)) (c4 : w.cell? ⟨g, o + 4, none⟩ = some (.int .u8 b4)) (c5 : w.cell? ⟨g, o + 5, none⟩ = some (.int .u8 b5)) (c6 : w.cell? ⟨g, o + 6, none⟩ = some (.int .u8 b6)) (c7 : w.cell? ⟨g, o + 7, none⟩ = some (.int .u8 b7))
    (h0 : 0 ≤ b0) (k0 : b0 < 256) (h1 : 0 ≤ b1) (k1 : b1 < 256) (h2 : 0 ≤ b2) (k2 : b2 < 256) (h3 : 0 ≤ b3) (k3 : b3 < 256) (h4 : 0 ≤ b4) (k4 : b4 < 256) (h5 : 0 ≤ b5) (k5 : b5 < 256) (h6 : 0 ≤ b6) (k6 : b6 < 256) (h7 : 0 ≤ b7) (k7 : b7 < 256) :
    Calls Tryd.prog 14 #[.agg #[], .slice (some ⟨g, o, none⟩) n c] w fun e w' => e = .returned (.int .u64 (b7 + b6 * 256 + b5 * 65536 + b4 * 16777216 + b3 * 4294967296 + b2 * 1099511627776 + b1 * 281474976710656 + b0 * 72057594037927936)) ∧ Below w.heap.size w w' := by
  have d0 := cell_new (.cells #[] 41) c0
  have d1 := cell_new (.cells #[] 41) c1
  have d2 := cell_new (.cells #[] 41) c2
  have d3 := cell_new (.cells #[] 41) c3
  have d4 := cell_new (.cells #[] 41) c4
  have d5 := cell_new (.cells #[] 41) c5
  have d6 := cell_new (.cells #[] 41) c6
  have d7 := cell_new (.cells #[] 41) c7
  have q0 : 0 < n := by omega
  have q1 : (1 : Int) < (n : Int) := by omega
  have q2 : (2 : Int) < (n : Int) := by omega
  have q3 : (3 : Int) < (n : Int) := by omega
  have q4 : (4 : Int) < (n : Int) := by omega
  have q5 : (5 : Int) < (n : Int) := by omega
  have q6 : (6 : Int) < (n : Int) := by omega
  have q7 : (7 : Int) < (n : Int) := by omega
  go_enter Tryd.func14, Tryd.ntmps14
  go_wp2
  go_quiet (fail)
  go_wp2
  go_ret
  refine ⟨?_, ((Below.refl _ w).alloc (Nat.le_refl _) _).trans ⟨rfl, rfl, rfl, Nat.le_refl _, fun _ _ => rfl⟩⟩
  simp (disch := omega) only [u64_or8, u64_or16, u64_or24, u64_or32, u64_or40, u64_or48, u64_or56]
  rfl

set_option maxHeartbeats 400000 in
theorem new8 (a : Option Addr) (n c : Nat) (w : World) :
    Calls Tryd.prog 8 #[.slice a n c] w fun e w' => e = .returned (.pointer (some ⟨w.heap.size, 0, none⟩)) ∧ w' = w.alloc (.cells #[.slice a n c, .nilIface] 38) := by
  go_enter Tryd.func8, Tryd.ntmps8
  go_wp2
  go_ret
  exact ⟨rfl, rfl⟩

set_option maxHeartbeats 400000 in
theorem rest10 (p : Nat) (a : Option Addr) (n c : Nat) (w : World) (h : w.cell? ⟨p, 0, none⟩ = some (.slice a n c)) :
    Calls Tryd.prog 10 #[.pointer (some ⟨p, 0, none⟩)] w fun e w' => e = .returned (.slice a n c) ∧ w' = w := by
  go_enter Tryd.func10, Tryd.ntmps10
  go_wp2
  go_ret
  exact ⟨rfl, rfl⟩

set_option maxHeartbeats 400000 in
theorem err11 (p : Nat) (w : World) (h : w.cell? ⟨p, 1, none⟩ = some .nilIface) :
    Calls Tryd.prog 11 #[.pointer (some ⟨p, 0, none⟩)] w fun e w' => e = .returned .nilIface ∧ w' = w := by
  go_enter Tryd.func11, Tryd.ntmps11
  go_wp2
  go_ret
  exact ⟨rfl, rfl⟩

set_option maxHeartbeats 400000 in
/-- take(8), eight bytes and no more being left. -/
theorem take13 (p g o c : Nat) (w : World) (hc : 8 ≤ c) (h0 : w.cell? ⟨p, 0, none⟩ = some (.slice (some ⟨g, o, none⟩) 8 c)) (h1 : w.cell? ⟨p, 1, none⟩ = some .nilIface) (hf : w.frozen? ⟨p, 0, none⟩ = false) :
    Calls Tryd.prog 13 #[.pointer (some ⟨p, 0, none⟩), .int .i64 8] w fun e w' => e = .returned (.slice (some ⟨g, o, none⟩) 8 8) ∧ ∃ a', w' = w.setCell ⟨p, 0, none⟩ (.slice a' 0 (c - 8)) := by
  have hc' : (8 : Int) ≤ (c : Int) := by omega
  go_enter Tryd.func13, Tryd.ntmps13
  go_wp2
  all_goals (go_ret; exact ⟨rfl, _, rfl⟩)

set_option maxHeartbeats 400000 in
/-- Uint64, eight bytes and no more being left. -/
theorem uint9 (p g o c : Nat) (b0 b1 b2 b3 b4 b5 b6 b7 : Int) (w : World) (hc : 8 ≤ c) (hgp : g < p) (f0 : w.cell? ⟨p, 0, none⟩ = some (.slice (some ⟨g, o, none⟩) 8 c)) (f1 : w.cell? ⟨p, 1, none⟩ = some .nilIface) (hf : w.frozen? ⟨p, 0, none⟩ = false)
    (c0 : w.cell? ⟨g, o, none⟩ = some (.int .u8 b0)) (c1 : w.cell? ⟨g, o + 1, none⟩ = some (.int .u8 b1)) (c2 : w.cell? ⟨g, o + 2, none⟩ = some (.int .u8 b2)) (c3 : w.cell? ⟨g, o + 3, none⟩ = some (.int .u8 b3)) (c4 : w.cell? ⟨g, o + 4, none⟩ = some (.int .u8 b4)) (c5 : w.cell? ⟨g, o + 5, none⟩ = some (.int .u8 b5)) (c6 : w.cell? ⟨g, o + 6, none⟩ = some (.int .u8 b6)) (c7 : w.cell? ⟨g, o + 7, none⟩ = some (.int .u8 b7))
    (h0 : 0 ≤ b0) (k0 : b0 < 256) (h1 : 0 ≤ b1) (k1 : b1 < 256) (h2 : 0 ≤ b2) (k2 : b2 < 256) (h3 : 0 ≤ b3) (k3 : b3 < 256) (h4 : 0 ≤ b4) (k4 : b4 < 256) (h5 : 0 ≤ b5) (k5 : b5 < 256) (h6 : 0 ≤ b6) (k6 : b6 < 256) (h7 : 0 ≤ b7) (k7 : b7 < 256) :
    Calls Tryd.prog 9 #[.pointer (some ⟨p, 0, none⟩)] w fun e w' => e = .returned (.int .u64 (b7 + b6 * 256 + b5 * 65536 + b4 * 16777216 + b3 * 4294967296 + b2 * 1099511627776 + b1 * 281474976710656 + b0 * 72057594037927936)) ∧
      (∃ a', w'.cell? ⟨p, 0, none⟩ = some (.slice a' 0 (c - 8))) ∧ w'.cell? ⟨p, 1, none⟩ = some .nilIface ∧ Below p w w' := by
  have q := q23
  have hp : p < w.heap.size := World.block_lt_of_cell? w _ f0
  have keep : ∀ (i : Nat) (x u : Value), w.cell? ⟨g, i, none⟩ = some x → (w.setCell ⟨p, 0, none⟩ u).cell? ⟨g, i, none⟩ = some x := fun i x u h => by
    rw [World.cell?_of_block (w := w) (Below.heap_setCell w ⟨p, 0, none⟩ u g (by simp; omega))]; exact h
  have T := take13 p g o c w hc f0 f1 hf
  have HT : Hid (Calls Tryd.prog 13 #[.pointer (some ⟨p, 0, none⟩), .int .i64 8] w fun e w' => e = .returned (.slice (some ⟨g, o, none⟩) 8 8) ∧ ∃ a', w' = w.setCell ⟨p, 0, none⟩ (.slice a' 0 (c - 8))) := T
  have HK : Hid (∀ (i : Nat) (x u : Value), w.cell? ⟨g, i, none⟩ = some x → (w.setCell ⟨p, 0, none⟩ u).cell? ⟨g, i, none⟩ = some x) := keep
  clear T keep
  go_enter Tryd.func9, Tryd.ntmps9
  go_wp2_with fail
  refine HT.out.mono ?_
  rintro e w1 ⟨rfl, a', rfl⟩
  go_wp2_with fail
  refine (uint14 g o 8 8 b0 b1 b2 b3 b4 b5 b6 b7 _ (by omega) (HK.out _ _ _ c0) (HK.out _ _ _ c1) (HK.out _ _ _ c2) (HK.out _ _ _ c3) (HK.out _ _ _ c4) (HK.out _ _ _ c5) (HK.out _ _ _ c6) (HK.out _ _ _ c7) h0 k0 h1 k1 h2 k2 h3 k3 h4 k4 h5 k5 h6 k6 h7 k7).mono ?_
  rintro e w2 ⟨rfl, hb⟩
  go_wp2
  go_ret
  have hs : (w.setCell ⟨p, 0, none⟩ (.slice a' 0 (c - 8))).heap.size = w.heap.size := by simp [World.setCell]
  refine ⟨rfl, ⟨a', ?_⟩, ?_, ?_⟩
  · rw [hb.cell (p := ⟨p, 0, none⟩) (by rw [hs]; exact hp)]
    exact World.cell?_setCell_same _ _ _ f0
  · rw [hb.cell (p := ⟨p, 1, none⟩) (by rw [hs]; exact hp)]
    rw [World.cell?_setCell_other _ _ _ _ (by simp)]
    exact f1
  · exact ((Below.refl p w).setCell (Nat.le_refl _) _).trans (hb.mono (by rw [hs]; omega))
end Go.Proofs.Qxb6608948aDoor
