/-
  SEAT b6608988a: zzChain.
-/
import Derived.Test.Qxb6608988aPos
import Derived.Test.Qxb6608988aSizes
import Derived.Deep.RegionHeld3
import Derived.Deep.DeepCutAuto
namespace Go.Proofs.Qxb6608988a
open Go.RowKit

/-- WHAT A CHAIN IS, in the world w: x is nil, or a node whose left spine ends in e0. -/
def ChainAt (w : World) (e0 : Value) (x : Option Addr) : Prop := x = none ∨ ∃ b m v0, x = some ⟨b, 0, none⟩ ∧ w.cell? ⟨b, 0, none⟩ = some v0 ∧ LeftAt w e0 m v0
theorem ChainAt.below {w w' : World} {e0 : Value} {x : Option Addr} (hb : Below w.heap.size w w') (h : ChainAt w e0 x) : ChainAt w' e0 x := by
  rcases h with rfl | ⟨b, m, v0, rfl, hc, hl⟩
  · exact .inl rfl
  · exact .inr ⟨b, m, v0, rfl, (hb.cell (p := ⟨b, 0, none⟩) (World.block_lt_of_cell? w _ hc)).trans hc, hl.below hb⟩

/-- Two cells of a block below. -/
def PosAt (w : World) (L : Nat) (l c : Int) : Prop := w.cell? ⟨L, 0, none⟩ = some (.int .i64 l) ∧ w.cell? ⟨L, 1, none⟩ = some (.int .i64 c)

theorem posAt_new (w : World) (o : Obj) (l c : Int) : PosAt ((w.alloc o).alloc (.cells #[.int .i64 l, .int .i64 c] 30)).drew (w.heap.size + 1) l c := by
  constructor <;> simp [go_sem]
theorem posAt_mid (w : World) (o : Obj) (l c : Int) : PosAt ((w.alloc (.cells #[.int .i64 l, .int .i64 c] 30)).alloc o).drew w.heap.size l c := by
  constructor <;> simp [go_sem]
theorem below_two (w : World) (o o' : Obj) : Below w.heap.size w ((w.alloc o).alloc o').drew := (((Below.refl _ _).alloc (Nat.le_refl _) _).alloc (by simp) _).drew

/-- A new node behind a chain: a chain. -/
theorem chain_new {w : World} {e0 v0 : Value} {m : Nat} (h : LeftAt w e0 m v0) (o : Obj) (p q r t : Value) : ChainAt ((w.alloc o).alloc (.cells #[v0, p, q, r, t] 64)).drew e0 (some ⟨w.heap.size + 1, 0, none⟩) :=
  .inr ⟨w.heap.size + 1, m, v0, rfl, by simp [go_sem], h.below (below_two _ _ _)⟩

set_option maxHeartbeats 1000000 in
theorem chain9 (l c v : Int) (a : Option Addr) (n cp : Nat) (w : World) (hn : n ≤ 1048576) (h : Lev w a n) :
    Calls Try.prog 9 #[.int .i64 l, .int .i64 c, .int .i64 v, .slice a n cp] w fun e w' => ∃ L x, e = .returned (.tuple #[ptrV L, .pointer x]) ∧ LitAt w' L l c ∧ Below w.heap.size w w' ∧ ChainAt w' (.iface 25 (ptrV L)) x := by
  have HL : Hid (Lev w a n) := h
  clear h
  go_enter Try.func9, Try.ntmps9
  go_wp2_with (go_at_call 10; refine (pos10 _ _ _).mono ?_; rintro e w' ⟨rfl, rfl⟩)
  go_loopg [11, 12] n (fun g t i wr => ∃ (k : Nat) (x : Option Addr), k + g = n ∧ i = .int .i64 k ∧ t = .pointer x ∧ LitAt wr (w.heap.size + 1) l c ∧ Below w.heap.size w wr ∧ ChainAt wr (.iface 25 (ptrV (w.heap.size + 1))) x)
  case atStart =>
    refine ⟨0, none, by omega, rfl, rfl, ?_, ?_, .inl rfl⟩
    · constructor <;> simp [go_sem]
    · exact ((Below.refl _ _).alloc (Nat.le_refl _) _).alloc (by simp) _
  case round =>
    obtain ⟨k, x, hk, rfl, rfl, hlit, hB, hx⟩ := hrel
    have HK : Hid (k + gk = n) := hk
    have hk' : k ≤ n := by omega
    clear hk
    by_cases hlt : k < n
    · obtain ⟨b, off, pl, pc, op, yl, yc, yv, rfl, c0, c1, c2, c3, c4, c5⟩ := (HL.out.below hB) k hlt
      have hbw : b < wr.heap.size := World.block_lt_of_cell? wr _ c0
      have hlt' : (k : Int) < (n : Int) := by omega
      have h0' : (0 : Int) ≤ (k : Int) := by omega
      have HX : Hid (LitAt wr (w.heap.size + 1) l c ∧ Below w.heap.size w wr ∧ ChainAt wr (.iface 25 (ptrV (w.heap.size + 1))) x) := ⟨hlit, hB, hx⟩
      clear hlit hB hx HL
      go_wp2
      go_cut [13] (fun y wx => ∃ Ly, y = ptrV Ly ∧ Below wr.heap.size wr wx)
      case first =>
        clear c0 c1 c2
        go_region_held3 (fun w' => w'.cell? ⟨b, off + k * 6 + 3, none⟩ = some (.int .i64 yl) ∧ w'.cell? ⟨b, off + k * 6 + 4, none⟩ = some (.int .i64 yc) ∧ w'.cell? ⟨b, off + k * 6 + 5, none⟩ = some (.int .i64 yv)) (simp (disch := (first | omega | (simp; omega))) [go_sem, World.cell?_alloc_past, *])
          ((go_at_call 10; refine (pos10 _ _ _).mono ?_; rintro e w' ⟨rfl, rfl⟩))
        all_goals (go_wp2_with fail; go_meet; exact ⟨_, rfl, (((Below.refl _ _).alloc (Nat.le_refl _) _).alloc (by simp) _).drew⟩)
      case rest =>
      obtain ⟨Ly, rfl, hb1⟩ := hcut
      have d0 := (hb1.cell (p := ⟨b, off + k * 6, none⟩) hbw).trans c0
      have d1 := (hb1.cell (p := ⟨b, off + k * 6 + 1, none⟩) hbw).trans c1
      have hbw1 : b < wc.heap.size := Nat.lt_of_lt_of_le hbw hb1.size
      have HB1 : Hid (Below wr.heap.size wr wc) := hb1
      have H2 : Hid (wr.cell? ⟨b, off + k * 6 + 2, none⟩ = some (.string op)) := c2
      clear c0 c1 c2 c3 c4 c5 hb1
      go_wp2
      go_cut [14] (fun o wx => ∃ Lo, o = ptrV Lo ∧ PosAt wx Lo pl pc ∧ Below wc.heap.size wc wx)
      case first =>
        go_region_held3 (fun w' => w'.cell? ⟨b, off + k * 6, none⟩ = some (.int .i64 pl) ∧ w'.cell? ⟨b, off + k * 6 + 1, none⟩ = some (.int .i64 pc)) (simp (disch := (first | omega | (simp; omega))) [go_sem, World.cell?_alloc_past, *])
          ((go_at_call 10; refine (pos10 _ _ _).mono ?_; rintro e w' ⟨rfl, rfl⟩))
        all_goals (go_wp2_with fail; go_meet; first | exact ⟨_, rfl, posAt_new _ _ _ _, below_two _ _ _⟩ | exact ⟨_, rfl, posAt_mid _ _ _ _, below_two _ _ _⟩)
      case rest =>
      obtain ⟨Lo, rfl, hpos, hb2⟩ := hcut
      have d2 := (hb2.cell (p := ⟨b, off + k * 6 + 2, none⟩) hbw1).trans ((HB1.out.cell (p := ⟨b, off + k * 6 + 2, none⟩) hbw).trans H2.out)
      have e0 := hpos.1
      have e1 := hpos.2
      have hbw2 : b < wc.heap.size := Nat.lt_of_lt_of_le hbw1 hb2.size
      have hLo : Lo < wc.heap.size := World.block_lt_of_cell? _ _ e0
      have hb3 := HB1.out.trans (hb2.mono HB1.out.size)
      have hlit : LitAt wc (w.heap.size + 1) l c := HX.out.1.below hb3
      have hB : Below w.heap.size w wc := HX.out.2.1.trans (hb3.mono HX.out.2.1.size)
      have hx : ChainAt wc (.iface 25 (ptrV (w.heap.size + 1))) x := HX.out.2.2.below hb3
      have HY : Hid (LitAt wc (w.heap.size + 1) l c ∧ Below w.heap.size w wc) := ⟨hlit, hB⟩
      clear hlit hB hb3 hb2 d0 d1 hpos hbw1 hbw HB1 H2 HX
      rcases hx with rfl | ⟨bb, m, v0, rfl, hb0, hch⟩
      · go_wp2
        go_region_held3 (fun w' => w'.cell? ⟨b, off + k * 6 + 2, none⟩ = some (.string op) ∧ w'.cell? ⟨Lo, 0, none⟩ = some (.int .i64 pl) ∧ w'.cell? ⟨Lo, 1, none⟩ = some (.int .i64 pc)) (simp (disch := (first | omega | (simp; omega))) [go_sem, World.cell?_alloc_past, *])
          ((go_at_call 11; refine (bin11 _ _ _ _ _ _).mono ?_; rintro e w' ⟨rfl, rfl⟩))
        go_wp2
        go_roundg (n - (k + 1))
        case measure => have := HK.out; omega
        case rel => exact ⟨k + 1, _, by omega, by go_num, rfl, HY.out.1.below (below_two _ _ _), HY.out.2.trans ((below_two _ _ _).mono HY.out.2.size), chain_new (m := 0) rfl _ _ _ _ _⟩
      · have HC : Hid (wc.cell? ⟨bb, 0, none⟩ = some v0 ∧ LeftAt wc (.iface 25 (ptrV (w.heap.size + 1))) m v0) := ⟨hb0, hch⟩
        clear hb0 hch
        go_wp2
        go_region_held3 (fun w' => w'.cell? ⟨b, off + k * 6 + 2, none⟩ = some (.string op) ∧ w'.cell? ⟨Lo, 0, none⟩ = some (.int .i64 pl) ∧ w'.cell? ⟨Lo, 1, none⟩ = some (.int .i64 pc)) (simp (disch := (first | omega | (simp; omega))) [go_sem, World.cell?_alloc_past, *])
          ((go_at_call 13; refine (bin13 _ _ _ _ _ _).mono ?_; rintro e w' ⟨rfl, rfl⟩))
        go_wp2
        go_roundg (n - (k + 1))
        case measure => have := HK.out; omega
        case rel => exact ⟨k + 1, _, by omega, by go_num, rfl, HY.out.1.below (below_two _ _ _), HY.out.2.trans ((below_two _ _ _).mono HY.out.2.size), chain_new (m := m + 1) ⟨bb, v0, rfl, HC.out.1, HC.out.2⟩ _ _ _ _ _⟩
    · go_wp2
      go_ret2
      exact ⟨_, _, rfl, hlit, hB, hx⟩
end Go.Proofs.Qxb6608988a
