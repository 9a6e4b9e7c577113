/-
  SEAT b6608988a: Pos along a chain.
-/
import Derived.Test.Qxb6608988aNodes
import Derived.Deep.LoopGhost
import Derived.Laws.ResultCell
namespace Go.Proofs.Qxb6608988a
open Go.RowKit

theorem ta26 (a : Option Addr) (w : World) : (Instr.typeAssert (.iface 26 (.pointer a)) 62 26 true).run Try.prog w = .ok (.tuple #[.pointer a, .bool true]) w := by kernel_rfl
theorem ta25 (a : Option Addr) (w : World) : (Instr.typeAssert (.iface 25 (.pointer a)) 62 26 true).run Try.prog w = .ok (.tuple #[.pointer none, .bool false]) w := by kernel_rfl
theorem ta38 (a : Option Addr) (w : World) : (Instr.typeAssert (.iface 38 (.pointer a)) 62 26 true).run Try.prog w = .ok (.tuple #[.pointer none, .bool false]) w := by kernel_rfl

theorem m25 (a : Addr) (w : World) : (method 194 25 (.pointer (some a)) "Pos").run Try.prog w = .ok (16, .pointer (some a)) w := by kernel_rfl
theorem m26 (a : Addr) (w : World) : (method 194 26 (.pointer (some a)) "Pos").run Try.prog w = .ok (15, .pointer (some a)) w := by kernel_rfl
theorem m38 (a : Addr) (w : World) : (method 194 38 (.pointer (some a)) "Pos").run Try.prog w = .ok (21, .pointer (some a)) w := by kernel_rfl

/-- The value v leads, over k nodes of type BinaryExpr by their left operands, to the value e0. -/
def LeftAt (w : World) (e0 : Value) : Nat → Value → Prop
  | 0, v => v = e0
  | k + 1, v => ∃ b v', v = .iface 26 (ptrV b) ∧ w.cell? ⟨b, 0, none⟩ = some v' ∧ LeftAt w e0 k v'

theorem LeftAt.below {w w' : World} {e0 : Value} (hb : Below w.heap.size w w') : ∀ {k : Nat} {v : Value}, LeftAt w e0 k v → LeftAt w' e0 k v
  | 0, _, h => h
  | _ + 1, _, ⟨b, v', e, hc, h⟩ => ⟨b, v', e, (hb.cell (p := ⟨b, 0, none⟩) (World.block_lt_of_cell? w _ hc)).trans hc, LeftAt.below hb h⟩

/-- A literal lies in block L at the place l, c. -/
def LitAt (w : World) (L : Nat) (l c : Int) : Prop := w.cell? ⟨L, 0, none⟩ = some (.int .i64 l) ∧ w.cell? ⟨L, 1, none⟩ = some (.int .i64 c)
theorem LitAt.below {w w' : World} {L : Nat} {l c : Int} (hb : Below w.heap.size w w') (h : LitAt w L l c) : LitAt w' L l c :=
  ⟨(hb.cell (p := ⟨L, 0, none⟩) (World.block_lt_of_cell? w _ h.1)).trans h.1, (hb.cell (p := ⟨L, 1, none⟩) (World.block_lt_of_cell? w _ h.2)).trans h.2⟩

set_option maxHeartbeats 400000 in
/-- Pos of a chain that ends in a literal: the literal's place. -/
theorem binPos_lit (b n L : Nat) (v0 : Value) (l c : Int) (w : World) (h0 : w.cell? ⟨b, 0, none⟩ = some v0) (hch : LeftAt w (.iface 25 (ptrV L)) n v0) (hl : LitAt w L l c) :
    Calls Try.prog 15 #[ptrV b] w fun e w' => e = .returned (posV l c) ∧ Below w.heap.size w w' := by
  have hbl : Below w.heap.size w (w.alloc (.cells #[.int .i64 0, .int .i64 0] 30)) := (Below.refl _ _).alloc (Nat.le_refl _) _
  have HC : Hid (LeftAt (w.alloc (.cells #[.int .i64 0, .int .i64 0] 30)) (.iface 25 (ptrV L)) n v0) := hch.below hbl
  have HL : Hid (LitAt (w.alloc (.cells #[.int .i64 0, .int .i64 0] 30)) L l c) := hl.below hbl
  have hbw : b < w.heap.size := World.block_lt_of_cell? w _ h0
  clear hch hl hbl
  have t26 := ta26
  have t25 := ta25
  have m25 := m25
  go_enter Try.func15, Try.ntmps15
  go_wp2
  go_loopg [3] n (fun k left wr => LeftAt wr (.iface 25 (ptrV L)) k left ∧ wr = w.alloc (.cells #[.int .i64 0, .int .i64 0] 30))
  case atStart => exact ⟨HC.out, rfl⟩
  case round =>
    obtain ⟨hk, rfl⟩ := hrel
    cases gk with
    | zero =>
      obtain rfl := hk
      go_wp2_with (go_at_call 16; refine (litPos16 L l c _ HL.out.1 HL.out.2).mono ?_; rintro e w' ⟨rfl, rfl⟩)
      refine bodyPost_ret (v := posV l c) (by simp [results, Try.results15, go_sem]) rfl ⟨rfl, ?_⟩
      exact ((Below.refl _ _).alloc (Nat.le_refl _) _).alloc (by simp) _
    | succ k =>
      obtain ⟨b', v', rfl, hc, hk⟩ := hk
      go_wp2
      go_roundg k
      case rel => exact ⟨hk, rfl⟩
      case measure => omega

theorem bcell {W w1 : World} (hb : Below W.heap.size W w1) : (∀ b o, b < W.heap.size → w1.cell? ⟨b, o, none⟩ = W.cell? ⟨b, o, none⟩) ∧ (∀ b o, b < W.heap.size → w1.frozen? ⟨b, o, none⟩ = W.frozen? ⟨b, o, none⟩) :=
  ⟨fun b o h => hb.cell (p := ⟨b, o, none⟩) h, fun b o h => hb.frozen (p := ⟨b, o, none⟩) h⟩

set_option maxHeartbeats 400000 in
/-- Pos of a lookup over a literal. -/
theorem lookPos_lit (K L : Nat) (l c : Int) (w : World) (h0 : w.cell? ⟨K, 0, none⟩ = some (.iface 25 (ptrV L))) (hl : LitAt w L l c) :
    Calls Try.prog 21 #[ptrV K] w fun e w' => e = .returned (posV l c) ∧ Below w.heap.size w w' := by
  have hbl : Below w.heap.size w (w.alloc (.cells #[.int .i64 0, .int .i64 0] 30)) := (Below.refl _ _).alloc (Nat.le_refl _) _
  have HL : Hid (LitAt (w.alloc (.cells #[.int .i64 0, .int .i64 0] 30)) L l c) := hl.below hbl
  have hbw : K < w.heap.size := World.block_lt_of_cell? w _ h0
  clear hl hbl
  have m25 := m25
  go_enter Try.func21, Try.ntmps21
  go_wp2_with (go_at_call 16; refine (litPos16 L l c _ HL.out.1 HL.out.2).mono ?_; rintro e w' ⟨rfl, rfl⟩)
  refine bodyPost_ret (v := posV l c) (by simp [results, Try.results21, go_sem]) rfl ⟨rfl, ?_⟩
  exact ((Below.refl _ _).alloc (Nat.le_refl _) _).alloc (by simp) _

set_option maxHeartbeats 400000 in
/-- Pos of a lookup over a chain. -/
theorem lookPos_bin (K b n L : Nat) (v0 : Value) (l c : Int) (w : World) (hK : w.cell? ⟨K, 0, none⟩ = some (.iface 26 (ptrV b))) (h0 : w.cell? ⟨b, 0, none⟩ = some v0) (hch : LeftAt w (.iface 25 (ptrV L)) n v0) (hl : LitAt w L l c) :
    Calls Try.prog 21 #[ptrV K] w fun e w' => e = .returned (posV l c) ∧ Below w.heap.size w w' := by
  have hbl : Below w.heap.size w (w.alloc (.cells #[.int .i64 0, .int .i64 0] 30)) := (Below.refl _ _).alloc (Nat.le_refl _) _
  have HX : Hid (LitAt (w.alloc (.cells #[.int .i64 0, .int .i64 0] 30)) L l c ∧ LeftAt (w.alloc (.cells #[.int .i64 0, .int .i64 0] 30)) (.iface 25 (ptrV L)) n v0 ∧ (w.alloc (.cells #[.int .i64 0, .int .i64 0] 30)).cell? ⟨b, 0, none⟩ = some v0) :=
    ⟨hl.below hbl, hch.below hbl, (hbl.cell (p := ⟨b, 0, none⟩) (World.block_lt_of_cell? w _ h0)).trans h0⟩
  have hbw : K < w.heap.size := World.block_lt_of_cell? w _ hK
  clear hl hbl hch h0
  have m26 := m26
  go_enter Try.func21, Try.ntmps21
  go_wp2_with (go_at_call 15; refine (binPos_lit b n L v0 l c _ HX.out.2.2 HX.out.2.1 HX.out.1).mono ?_; rintro e w1 ⟨rfl, hb⟩; obtain ⟨hc, hf⟩ := bcell hb; have hz : w.heap.size < w1.heap.size := (by have := hb.size; simp at this; omega))
  refine bodyPost_ret (v := posV l c) ?_ rfl ⟨rfl, ?_⟩
  · simp [results, Try.results21, go_sem, hc]
  · exact (((((Below.refl _ _).alloc (Nat.le_refl _) _).trans (hb.mono (by simp))).setCell (Nat.le_refl _) _).setCell (Nat.le_refl _) _)

set_option maxHeartbeats 400000 in
/-- Pos of a chain that ends in a lookup: the lookup's own. -/
theorem binPos_look (b n K : Nat) (v0 : Value) (l c : Int) (w : World) (h0 : w.cell? ⟨b, 0, none⟩ = some v0) (hch : LeftAt w (.iface 38 (ptrV K)) n v0)
    (hk : ∀ w1, Below w.heap.size w w1 → Calls Try.prog 21 #[ptrV K] w1 fun e w' => e = .returned (posV l c) ∧ Below w1.heap.size w1 w') :
    Calls Try.prog 15 #[ptrV b] w fun e w' => e = .returned (posV l c) ∧ Below w.heap.size w w' := by
  have hbl : Below w.heap.size w (w.alloc (.cells #[.int .i64 0, .int .i64 0] 30)) := (Below.refl _ _).alloc (Nat.le_refl _) _
  have HC : Hid (LeftAt (w.alloc (.cells #[.int .i64 0, .int .i64 0] 30)) (.iface 38 (ptrV K)) n v0) := hch.below hbl
  have HK : Hid (∀ w1, Below w.heap.size w w1 → Calls Try.prog 21 #[ptrV K] w1 fun e w' => e = .returned (posV l c) ∧ Below w1.heap.size w1 w') := hk
  have HB : Hid (Below w.heap.size w (w.alloc (.cells #[.int .i64 0, .int .i64 0] 30))) := hbl
  have hbw : b < w.heap.size := World.block_lt_of_cell? w _ h0
  clear hch hk hbl
  have t26 := ta26
  have t38 := ta38
  have m38 := m38
  go_enter Try.func15, Try.ntmps15
  go_wp2
  go_loopg [3] n (fun k left wr => LeftAt wr (.iface 38 (ptrV K)) k left ∧ wr = w.alloc (.cells #[.int .i64 0, .int .i64 0] 30))
  case atStart => exact ⟨HC.out, rfl⟩
  case round =>
    obtain ⟨hk, rfl⟩ := hrel
    cases gk with
    | zero =>
      obtain rfl := hk
      go_wp2_with (go_at_call 21; refine (HK.out _ HB.out).mono ?_; rintro e w1 ⟨rfl, hb⟩; obtain ⟨hc, hf⟩ := bcell hb; have hz : w.heap.size < w1.heap.size := (by have := hb.size; simp at this; omega))
      refine bodyPost_ret (v := posV l c) ?_ rfl ⟨rfl, ?_⟩
      · simp [results, Try.results15, go_sem, hc]
      · exact (((((Below.refl _ _).alloc (Nat.le_refl _) _).trans (hb.mono (by simp))).setCell (Nat.le_refl _) _).setCell (Nat.le_refl _) _)
    | succ k =>
      obtain ⟨b', v', rfl, hc, hk⟩ := hk
      go_wp2
      go_roundg k
      case rel => exact ⟨hk, rfl⟩
      case measure => omega
end Go.Proofs.Qxb6608988a
