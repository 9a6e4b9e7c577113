/-
  SEAT b6608988a: the walk of FnBinaryPosReachesThroughLookup.
-/
import Derived.Test.Qxb6608988aChain
import Derived.Deep.QuietTactic
import Derived.BigQuiet
namespace Go.Proofs.Qxb6608988a.lk
open Go.RowKit

/-- Block K is a lookup over the literal in L, or over a chain that ends in it. -/
def LookAt (w : World) (K L : Nat) : Prop :=
  w.cell? ⟨K, 0, none⟩ = some (.iface 25 (ptrV L)) ∨ ∃ b m v0, w.cell? ⟨K, 0, none⟩ = some (.iface 26 (ptrV b)) ∧ w.cell? ⟨b, 0, none⟩ = some v0 ∧ LeftAt w (.iface 25 (ptrV L)) m v0
theorem LookAt.below {w w' : World} {K L : Nat} (hb : Below w.heap.size w w') (h : LookAt w K L) : LookAt w' K L := by
  rcases h with hc | ⟨b, m, v0, hc, h0, hl⟩
  · exact .inl ((hb.cell (p := ⟨K, 0, none⟩) (World.block_lt_of_cell? w _ hc)).trans hc)
  · exact .inr ⟨b, m, v0, (hb.cell (p := ⟨K, 0, none⟩) (World.block_lt_of_cell? w _ hc)).trans hc, (hb.cell (p := ⟨b, 0, none⟩) (World.block_lt_of_cell? w _ h0)).trans h0, hl.below hb⟩
theorem LookAt.pos {w : World} {K L : Nat} {l c : Int} (h : LookAt w K L) (hl : LitAt w L l c) : Calls Try.prog 21 #[ptrV K] w fun e w' => e = .returned (posV l c) ∧ Below w.heap.size w w' := by
  rcases h with hc | ⟨b, m, v0, hc, h0, hch⟩
  · exact lookPos_lit K L l c w hc hl
  · exact lookPos_bin K b m L v0 l c w hc h0 hch hl

/-- What is known when the lookup is built. -/
structure Base (w0 w : World) (L : Nat) (l c : Int) (x1 : Option Addr) (K : Nat) : Prop where
  lit : LitAt w L l c
  ch : ChainAt w (.iface 25 (ptrV L)) x1
  look : LookAt w K L
  bel : Below w0.heap.size w0 w
theorem Base.below {w0 w w' : World} {L : Nat} {l c : Int} {x1 : Option Addr} {K : Nat} (h : Base w0 w L l c x1 K) (hb : Below w.heap.size w w') : Base w0 w' L l c x1 K :=
  ⟨h.lit.below hb, h.ch.below hb, h.look.below hb, h.bel.trans (hb.mono h.bel.size)⟩

/-- What is known when all is built: A: the place that is wanted. -/
structure St (w0 w : World) (L : Nat) (l c : Int) (x1 : Option Addr) (K : Nat) (x2 : Option Addr) (A : Nat) : Prop where
  b : Base w0 w L l c x1 K
  ch : ChainAt w (.iface 38 (ptrV K)) x2
  a : PosAt w A l c
section
variable {w0 w w' : World} {L : Nat} {l c : Int} {x1 x2 : Option Addr} {K A : Nat}
theorem St.below (h : St w0 w L l c x1 K x2 A) (hb : Below w.heap.size w w') : St w0 w' L l c x1 K x2 A := ⟨h.b.below hb, h.ch.below hb, LitAt.below hb h.a⟩
theorem St.drew (h : St w0 w L l c x1 K x2 A) : St w0 w.drew L l c x1 K x2 A := h.below (Below.refl _ _).drew
theorem St.drewN (h : St w0 w L l c x1 K x2 A) (n : Nat) : St w0 (w.drewN n) L l c x1 K x2 A := h.below ⟨rfl, rfl, rfl, Nat.le_refl _, fun _ _ => rfl⟩
theorem St.held (h : St w0 w L l c x1 K x2 A) : w.cell? ⟨A, 0, none⟩ = some (.int .i64 l) ∧ w.cell? ⟨A, 1, none⟩ = some (.int .i64 c) ∧ St w0 w L l c x1 K x2 A := ⟨h.a.1, h.a.2, h⟩
theorem St.lpos (h : St w0 w L l c x1 K x2 A) : Calls Try.prog 16 #[ptrV L] w fun e w' => e = .returned (posV l c) ∧ St w0 w' L l c x1 K x2 A :=
  (litPos16 L l c w h.b.lit.1 h.b.lit.2).mono fun _ _ ⟨he, hb⟩ => ⟨he, h.below (by rw [hb]; exact (Below.refl _ _).alloc (Nat.le_refl _) _)⟩
theorem St.kpos (h : St w0 w L l c x1 K x2 A) : Calls Try.prog 21 #[ptrV K] w fun e w' => e = .returned (posV l c) ∧ St w0 w' L l c x1 K x2 A :=
  (h.b.look.pos h.b.lit).mono fun _ _ ⟨he, hb⟩ => ⟨he, h.below hb⟩
theorem St.xpos {b1 : Nat} (h : St w0 w L l c (some ⟨b1, 0, none⟩) K x2 A) : Calls Try.prog 15 #[ptrV b1] w fun e w' => e = .returned (posV l c) ∧ St w0 w' L l c (some ⟨b1, 0, none⟩) K x2 A := by
  rcases h.b.ch with h' | ⟨b, m, v0, e, hc, hl⟩
  · cases h'
  · cases e
    exact (binPos_lit b1 m L v0 l c w hc hl h.b.lit).mono fun _ _ ⟨he, hb⟩ => ⟨he, h.below hb⟩
theorem St.ypos {b2 : Nat} (h : St w0 w L l c x1 K (some ⟨b2, 0, none⟩) A) : Calls Try.prog 15 #[ptrV b2] w fun e w' => e = .returned (posV l c) ∧ St w0 w' L l c x1 K (some ⟨b2, 0, none⟩) A := by
  rcases h.ch with h' | ⟨b, m, v0, e, hc, hl⟩
  · cases h'
  · cases e
    exact (binPos_look b2 m K v0 l c w hc hl (fun w1 hb1 => (h.b.look.below hb1).pos (h.b.lit.below hb1))).mono fun _ _ ⟨he, hb⟩ => ⟨he, h.below hb⟩
end

/-- The wanted place is laid, in two new blocks. -/
theorem st_of {w0 w : World} {L : Nat} {l c : Int} {x1 x2 : Option Addr} {K : Nat} (h : Base w0 w L l c x1 K) (hc : ChainAt w (.iface 38 (ptrV K)) x2) (o : Obj) :
    St w0 ((w.alloc o).alloc (.cells #[.int .i64 l, .int .i64 c] 30)) L l c x1 K x2 (w.heap.size + 1) := by
  have hb : Below w.heap.size w ((w.alloc o).alloc (.cells #[.int .i64 l, .int .i64 c] 30)) := ((Below.refl _ _).alloc (Nat.le_refl _) _).alloc (by simp) _
  refine ⟨h.below hb, hc.below hb, ?_, ?_⟩
  · rw [World.cell?_alloc_at _ _ _ _ (by simp)]; rfl
  · rw [World.cell?_alloc_at _ _ _ _ (by simp)]; rfl

/-- The lookup is laid, in seven new blocks. -/
theorem base_of {w0 w : World} {L : Nat} {l c : Int} {x1 : Option Addr} (hlit : LitAt w L l c) (hch : ChainAt w (.iface 25 (ptrV L)) x1) (hbel : Below w0.heap.size w0 w) (v0 : Value)
    (hv : v0 = .iface 25 (ptrV L) ∨ ∃ b m v1, v0 = .iface 26 (ptrV b) ∧ w.cell? ⟨b, 0, none⟩ = some v1 ∧ LeftAt w (.iface 25 (ptrV L)) m v1) (o1 o2 o3 o4 o5 o6 : Obj) (p q r s t u : Value) :
    Base w0 (((((((w.alloc o1).alloc o2).alloc o3).alloc o4).alloc o5).alloc o6).alloc (.cells #[v0, p, q, r, s, t, u] 68)) L l c x1 (w.heap.size + 1 + 1 + 1 + 1 + 1 + 1) := by
  have hb : Below w.heap.size w (((((((w.alloc o1).alloc o2).alloc o3).alloc o4).alloc o5).alloc o6).alloc (.cells #[v0, p, q, r, s, t, u] 68)) :=
    (((((((Below.refl _ _).alloc (Nat.le_refl _) _).alloc (by simp) _).alloc (by simp; omega) _).alloc (by simp; omega) _).alloc (by simp; omega) _).alloc (by simp; omega) _).alloc (by simp; omega) _
  have hK : (((((((w.alloc o1).alloc o2).alloc o3).alloc o4).alloc o5).alloc o6).alloc (.cells #[v0, p, q, r, s, t, u] 68)).cell? ⟨w.heap.size + 1 + 1 + 1 + 1 + 1 + 1, 0, none⟩ = some v0 := by
    rw [World.cell?_alloc_at _ _ _ _ (by simp)]; rfl
  refine ⟨hlit.below hb, hch.below hb, ?_, hbel.trans (hb.mono hbel.size)⟩
  rcases hv with rfl | ⟨b, m, v1, rfl, h0, hl⟩
  · exact .inl hK
  · exact .inr ⟨b, m, v1, hK, (hb.cell (p := ⟨b, 0, none⟩) (World.block_lt_of_cell? w _ h0)).trans h0, hl.below hb⟩

set_option maxRecDepth 100000 in
set_option maxHeartbeats 4000000 in
theorem law4 (ll lc lv : Int) (a1 : Option Addr) (n1 c1 : Nat) (kind list : ByteArray) (il ic tl tc : Int) (a2 : Option Addr) (n2 c2 : Nat) (w : World) (h1 : Lev w a1 n1) (h2 : Lev w a2 n2) :
    Calls Try.prog 4 #[.int .i64 ll, .int .i64 lc, .int .i64 lv, .slice a1 n1 c1, .string kind, .string list, .int .i64 il, .int .i64 ic, .int .i64 tl, .int .i64 tc, .slice a2 n2 c2] w
      fun e w' => e = .returned (.bool true) ∧ Below w.heap.size w w' := by
  have H1 : Hid (Lev w a1 n1) := h1
  have H2 : Hid (Lev w a2 n2) := h2
  clear h1 h2
  by_cases g1 : (16384 : Int) < (n1 : Int)
  · go_enter Try.func4, Try.ntmps4
    go_wp2_with (go_at_call 17; refine (guard17 _ _ _ _ _ _ _ _ _ _ _ _ _ _ _ _ H1.out H2.out).mono ?_; rintro e w1 ⟨⟨b, rfl⟩, hw1⟩; subst w1)
    all_goals (go_ret; exact ⟨rfl, Below.refl _ _⟩)
  by_cases g2 : (16384 : Int) < (n2 : Int)
  · go_enter Try.func4, Try.ntmps4
    go_wp2_with (go_at_call 17; refine (guard17 _ _ _ _ _ _ _ _ _ _ _ _ _ _ _ _ H1.out H2.out).mono ?_; rintro e w1 ⟨⟨b, rfl⟩, hw1⟩; subst w1)
    all_goals (go_ret; exact ⟨rfl, Below.refl _ _⟩)
  by_cases g3 : (65536 : Int) < (kind.size : Int)
  · go_enter Try.func4, Try.ntmps4
    go_wp2_with (go_at_call 17; refine (guard17 _ _ _ _ _ _ _ _ _ _ _ _ _ _ _ _ H1.out H2.out).mono ?_; rintro e w1 ⟨⟨b, rfl⟩, hw1⟩; subst w1)
    all_goals (go_ret; exact ⟨rfl, Below.refl _ _⟩)
  by_cases g4 : (65536 : Int) < (list.size : Int)
  · go_enter Try.func4, Try.ntmps4
    go_wp2_with (go_at_call 17; refine (guard17 _ _ _ _ _ _ _ _ _ _ _ _ _ _ _ _ H1.out H2.out).mono ?_; rintro e w1 ⟨⟨b, rfl⟩, hw1⟩; subst w1)
    all_goals (go_ret; exact ⟨rfl, Below.refl _ _⟩)
  go_enter Try.func4, Try.ntmps4
  go_wp2_with fail
  refine (guard17 _ _ _ _ _ _ _ _ _ _ _ _ _ _ _ _ H1.out H2.out).mono ?_
  rintro e w1 ⟨⟨b, rfl⟩, hw1⟩
  subst w1
  cases b
  · go_wp2
    go_ret
    exact ⟨rfl, Below.refl _ _⟩
  go_wp2_with fail
  refine (size8 _ _ _ _ _ (by omega) H1.out).mono ?_
  rintro e w1 ⟨⟨t1, rfl⟩, hw1⟩
  subst w1
  by_cases gt1 : 1048576 < t1
  · go_wp2
    go_ret
    exact ⟨rfl, Below.refl _ _⟩
  go_wp2_with fail
  refine (size8 _ _ _ _ _ (by omega) H2.out).mono ?_
  rintro e w1 ⟨⟨t2, rfl⟩, hw1⟩
  subst w1
  by_cases gt2 : 1048576 < t2
  · go_wp2
    go_ret
    exact ⟨rfl, Below.refl _ _⟩
  go_wp2_with fail
  refine (chain9 _ _ _ _ _ _ _ (by omega) H1.out).mono ?_
  rintro e w2 ⟨L, x1, rfl, hla, hb1, hca⟩
  have HA : Hid (LitAt w2 L ll lc ∧ ChainAt w2 (.iface 25 (ptrV L)) x1 ∧ Below w.heap.size w w2) := ⟨hla, hca, hb1⟩
  clear hla hb1 hca H1 gt1 gt2
  go_upto_if 94 with (go_at_call 10; refine (pos10 _ _ _).mono ?_; rintro e w' ⟨rfl, rfl⟩)
  go_cut [28] (fun t wx => ∃ K, t = ptrV K ∧ Base w wx L ll lc x1 K)
  case first =>
    rcases HA.out.2.1 with rfl | ⟨b1, m1, v1, rfl, hc1, hl1⟩
    · go_wp2_with (go_at_call 18; refine (look18 _ _ _ _ _ _ _ _).mono ?_; rintro e w' ⟨rfl, rfl⟩)
      go_meet
      exact ⟨_, rfl, base_of HA.out.1 HA.out.2.1 HA.out.2.2 _ (.inl rfl) _ _ _ _ _ _ _ _ _ _ _ _⟩
    · have HC : Hid (w2.cell? ⟨b1, 0, none⟩ = some v1 ∧ LeftAt w2 (.iface 25 (ptrV L)) m1 v1) := ⟨hc1, hl1⟩
      clear hc1 hl1
      go_wp2_with (go_at_call 19; refine (look19 _ _ _ _ _ _ _ _).mono ?_; rintro e w' ⟨rfl, rfl⟩)
      go_meet
      exact ⟨_, rfl, base_of HA.out.1 HA.out.2.1 HA.out.2.2 _ (.inr ⟨b1, m1, v1, rfl, HC.out.1, HC.out.2⟩) _ _ _ _ _ _ _ _ _ _ _ _⟩
  case rest =>
  obtain ⟨K, rfl, hbase⟩ := hcut
  have HBs : Hid (Base w wc L ll lc x1 K) := hbase
  clear hbase HA
  go_wp2
  go_loopg [29, 30] n2 (fun g t i wr => ∃ (k : Nat) (x : Option Addr), k + g = n2 ∧ i = .int .i64 k ∧ t = .pointer x ∧ Base w wr L ll lc x1 K ∧ ChainAt wr (.iface 38 (ptrV K)) x)
  case atStart => exact ⟨0, none, by omega, rfl, rfl, HBs.out, .inl rfl⟩
  case round =>
    obtain ⟨k, x, hk, rfl, rfl, hbase, hx⟩ := hrel
    have HK : Hid (k + gk = n2) := hk
    have hk' : k ≤ n2 := by omega
    clear hk HBs
    by_cases hlt : k < n2
    · obtain ⟨b, off, pl, pc, op, yl, yc, yv, rfl, c0, c1, c2, c3, c4, c5⟩ := (H2.out.below hbase.bel) k hlt
      have hbw : b < wr.heap.size := World.block_lt_of_cell? wr _ c0
      have hlt' : (k : Int) < (n2 : Int) := by omega
      have h0' : (0 : Int) ≤ (k : Int) := by omega
      have HX : Hid (Base w wr L ll lc x1 K ∧ ChainAt wr (.iface 38 (ptrV K)) x) := ⟨hbase, hx⟩
      clear hbase hx H2
      go_wp2
      go_cut [31] (fun y wx => ∃ Ly, y = ptrV Ly ∧ Below wr.heap.size wr wx)
      case first =>
        clear c0 c1 c2
        go_region_held3 (fun w' => w'.cell? ⟨b, off + k * 6 + 3, none⟩ = some (.int .i64 yl) ∧ w'.cell? ⟨b, off + k * 6 + 4, none⟩ = some (.int .i64 yc) ∧ w'.cell? ⟨b, off + k * 6 + 5, none⟩ = some (.int .i64 yv)) (simp (disch := (first | omega | (simp; omega))) [go_sem, World.cell?_alloc_past, *])
          ((go_at_call 10; refine (pos10 _ _ _).mono ?_; rintro e w' ⟨rfl, rfl⟩))
        all_goals (go_wp2_with fail; go_meet; exact ⟨_, rfl, below_two _ _ _⟩)
      case rest =>
      obtain ⟨Ly, rfl, hb1⟩ := hcut
      have d0 := (hb1.cell (p := ⟨b, off + k * 6, none⟩) hbw).trans c0
      have d1 := (hb1.cell (p := ⟨b, off + k * 6 + 1, none⟩) hbw).trans c1
      have hbw1 : b < wc.heap.size := Nat.lt_of_lt_of_le hbw hb1.size
      have HB1 : Hid (Below wr.heap.size wr wc) := hb1
      have HS2 : Hid (wr.cell? ⟨b, off + k * 6 + 2, none⟩ = some (.string op)) := c2
      clear c0 c1 c2 c3 c4 c5 hb1
      go_wp2
      go_cut [32] (fun o wx => ∃ Lo, o = ptrV Lo ∧ PosAt wx Lo pl pc ∧ Below wc.heap.size wc wx)
      case first =>
        go_region_held3 (fun w' => w'.cell? ⟨b, off + k * 6, none⟩ = some (.int .i64 pl) ∧ w'.cell? ⟨b, off + k * 6 + 1, none⟩ = some (.int .i64 pc)) (simp (disch := (first | omega | (simp; omega))) [go_sem, World.cell?_alloc_past, *])
          ((go_at_call 10; refine (pos10 _ _ _).mono ?_; rintro e w' ⟨rfl, rfl⟩))
        all_goals (go_wp2_with fail; go_meet; first | exact ⟨_, rfl, posAt_new _ _ _ _, below_two _ _ _⟩ | exact ⟨_, rfl, posAt_mid _ _ _ _, below_two _ _ _⟩)
      case rest =>
      obtain ⟨Lo, rfl, hpos, hb2⟩ := hcut
      have d2 := (hb2.cell (p := ⟨b, off + k * 6 + 2, none⟩) hbw1).trans ((HB1.out.cell (p := ⟨b, off + k * 6 + 2, none⟩) hbw).trans HS2.out)
      have e0 := hpos.1
      have e1 := hpos.2
      have hbw2 : b < wc.heap.size := Nat.lt_of_lt_of_le hbw1 hb2.size
      have hLo : Lo < wc.heap.size := World.block_lt_of_cell? _ _ e0
      have hb3 := HB1.out.trans (hb2.mono HB1.out.size)
      have HY : Hid (Base w wc L ll lc x1 K) := HX.out.1.below hb3
      have hx : ChainAt wc (.iface 38 (ptrV K)) x := HX.out.2.below hb3
      clear hb3 hb2 d0 d1 hpos hbw1 hbw HB1 HS2 HX
      rcases hx with rfl | ⟨bb, m, v0, rfl, hb0, hch⟩
      · go_wp2
        go_region_held3 (fun w' => w'.cell? ⟨b, off + k * 6 + 2, none⟩ = some (.string op) ∧ w'.cell? ⟨Lo, 0, none⟩ = some (.int .i64 pl) ∧ w'.cell? ⟨Lo, 1, none⟩ = some (.int .i64 pc)) (simp (disch := (first | omega | (simp; omega))) [go_sem, World.cell?_alloc_past, *])
          ((go_at_call 20; refine (bin20 _ _ _ _ _ _).mono ?_; rintro e w' ⟨rfl, rfl⟩))
        go_wp2
        go_roundg (n2 - (k + 1))
        case measure => have := HK.out; omega
        case rel => exact ⟨k + 1, _, by omega, by go_num, rfl, HY.out.below (below_two _ _ _), chain_new (m := 0) rfl _ _ _ _ _⟩
      · have HC : Hid (wc.cell? ⟨bb, 0, none⟩ = some v0 ∧ LeftAt wc (.iface 38 (ptrV K)) m v0) := ⟨hb0, hch⟩
        clear hb0 hch
        go_wp2
        go_region_held3 (fun w' => w'.cell? ⟨b, off + k * 6 + 2, none⟩ = some (.string op) ∧ w'.cell? ⟨Lo, 0, none⟩ = some (.int .i64 pl) ∧ w'.cell? ⟨Lo, 1, none⟩ = some (.int .i64 pc)) (simp (disch := (first | omega | (simp; omega))) [go_sem, World.cell?_alloc_past, *])
          ((go_at_call 13; refine (bin13 _ _ _ _ _ _).mono ?_; rintro e w' ⟨rfl, rfl⟩))
        go_wp2
        go_roundg (n2 - (k + 1))
        case measure => have := HK.out; omega
        case rel => exact ⟨k + 1, _, by omega, by go_num, rfl, HY.out.below (below_two _ _ _), chain_new (m := m + 1) ⟨bb, v0, rfl, HC.out.1, HC.out.2⟩ _ _ _ _ _⟩
    · have HE : Hid (Base w wr L ll lc x1 K ∧ ChainAt wr (.iface 38 (ptrV K)) x) := ⟨hbase, hx⟩
      have q1 : x1 = none ∨ ∃ b, x1 = some ⟨b, 0, none⟩ := by
        rcases hbase.ch with h | ⟨b, _, _, h, _⟩
        · exact .inl h
        · exact .inr ⟨b, h⟩
      have q2 : x = none ∨ ∃ b, x = some ⟨b, 0, none⟩ := by
        rcases hx with h | ⟨b, _, _, h, _⟩
        · exact .inl h
        · exact .inr ⟨b, h⟩
      clear hbase hx H2
      rcases q1 with rfl | ⟨b1, rfl⟩
      · rcases q2 with rfl | ⟨b2, rfl⟩
        · go_wp2_with (go_at_call 10; refine (pos10 _ _ _).mono ?_; rintro e w' ⟨rfl, rfl⟩)
          go_region_held3 (fun w' => w'.cell? ⟨wr.heap.size + 1, 0, none⟩ = some (.int .i64 ll) ∧ w'.cell? ⟨wr.heap.size + 1, 1, none⟩ = some (.int .i64 lc) ∧ St w w' L ll lc none K none (wr.heap.size + 1))
            (first | exact (st_of HE.out.1 HE.out.2 _).drew.held | exact St.held (by assumption))
            (first | (go_at_call 16; go_split_ands; refine (St.lpos (by assumption)).mono ?_; rintro e w' ⟨rfl, hst⟩) | (go_at_call 21; go_split_ands; refine (St.kpos (by assumption)).mono ?_; rintro e w' ⟨rfl, hst⟩))
          go_wp2
          go_quiet (fail)
          go_wp2
          go_quiet (fail)
          go_wp2
          go_ret
          exact ⟨rfl, (by first | exact (St.b (by assumption)).bel | exact (St.b (St.drew (by assumption))).bel | exact (St.b (St.drewN (by assumption) _)).bel | exact (St.b (St.drewN (St.drewN (by assumption) _) _)).bel)⟩
        · go_wp2_with (go_at_call 10; refine (pos10 _ _ _).mono ?_; rintro e w' ⟨rfl, rfl⟩)
          go_region_held3 (fun w' => w'.cell? ⟨wr.heap.size + 1, 0, none⟩ = some (.int .i64 ll) ∧ w'.cell? ⟨wr.heap.size + 1, 1, none⟩ = some (.int .i64 lc) ∧ St w w' L ll lc none K (some ⟨b2, 0, none⟩) (wr.heap.size + 1))
            (first | exact (st_of HE.out.1 HE.out.2 _).drew.held | exact St.held (by assumption))
            (first | (go_at_call 16; go_split_ands; refine (St.lpos (by assumption)).mono ?_; rintro e w' ⟨rfl, hst⟩) | (go_at_call 21; go_split_ands; refine (St.kpos (by assumption)).mono ?_; rintro e w' ⟨rfl, hst⟩))
          go_wp2
          go_quiet (fail)
          go_wp2
          go_region_held3 (fun w' => w'.cell? ⟨wr.heap.size + 1, 0, none⟩ = some (.int .i64 ll) ∧ w'.cell? ⟨wr.heap.size + 1, 1, none⟩ = some (.int .i64 lc) ∧ St w w' L ll lc none K (some ⟨b2, 0, none⟩) (wr.heap.size + 1))
            (first | exact (St.drew (by assumption)).held | exact (St.drew (St.drewN (by assumption) _)).held | exact St.held (by assumption))
            ((go_at_call 15; go_split_ands; refine (St.ypos (by assumption)).mono ?_; rintro e w' ⟨rfl, hst⟩))
          go_wp2
          go_ret
          exact ⟨rfl, (by first | exact (St.b (by assumption)).bel | exact (St.b (St.drew (by assumption))).bel | exact (St.b (St.drewN (by assumption) _)).bel | exact (St.b (St.drewN (St.drewN (by assumption) _) _)).bel)⟩
      · rcases q2 with rfl | ⟨b2, rfl⟩
        · go_wp2_with (go_at_call 10; refine (pos10 _ _ _).mono ?_; rintro e w' ⟨rfl, rfl⟩)
          go_region_held3 (fun w' => w'.cell? ⟨wr.heap.size + 1, 0, none⟩ = some (.int .i64 ll) ∧ w'.cell? ⟨wr.heap.size + 1, 1, none⟩ = some (.int .i64 lc) ∧ St w w' L ll lc (some ⟨b1, 0, none⟩) K none (wr.heap.size + 1))
            (first | exact (st_of HE.out.1 HE.out.2 _).drew.held | exact St.held (by assumption))
            (first | (go_at_call 16; go_split_ands; refine (St.lpos (by assumption)).mono ?_; rintro e w' ⟨rfl, hst⟩) | (go_at_call 21; go_split_ands; refine (St.kpos (by assumption)).mono ?_; rintro e w' ⟨rfl, hst⟩))
          go_wp2
          go_region_held3 (fun w' => w'.cell? ⟨wr.heap.size + 1, 0, none⟩ = some (.int .i64 ll) ∧ w'.cell? ⟨wr.heap.size + 1, 1, none⟩ = some (.int .i64 lc) ∧ St w w' L ll lc (some ⟨b1, 0, none⟩) K none (wr.heap.size + 1))
            (first | exact (St.drew (by assumption)).held | exact St.held (by assumption))
            ((go_at_call 15; go_split_ands; refine (St.xpos (by assumption)).mono ?_; rintro e w' ⟨rfl, hst⟩))
          go_wp2
          go_quiet (fail)
          go_wp2
          go_ret
          exact ⟨rfl, (by first | exact (St.b (by assumption)).bel | exact (St.b (St.drew (by assumption))).bel | exact (St.b (St.drewN (by assumption) _)).bel | exact (St.b (St.drewN (St.drewN (by assumption) _) _)).bel)⟩
        · go_wp2_with (go_at_call 10; refine (pos10 _ _ _).mono ?_; rintro e w' ⟨rfl, rfl⟩)
          go_region_held3 (fun w' => w'.cell? ⟨wr.heap.size + 1, 0, none⟩ = some (.int .i64 ll) ∧ w'.cell? ⟨wr.heap.size + 1, 1, none⟩ = some (.int .i64 lc) ∧ St w w' L ll lc (some ⟨b1, 0, none⟩) K (some ⟨b2, 0, none⟩) (wr.heap.size + 1))
            (first | exact (st_of HE.out.1 HE.out.2 _).drew.held | exact St.held (by assumption))
            (first | (go_at_call 16; go_split_ands; refine (St.lpos (by assumption)).mono ?_; rintro e w' ⟨rfl, hst⟩) | (go_at_call 21; go_split_ands; refine (St.kpos (by assumption)).mono ?_; rintro e w' ⟨rfl, hst⟩))
          go_wp2
          go_region_held3 (fun w' => w'.cell? ⟨wr.heap.size + 1, 0, none⟩ = some (.int .i64 ll) ∧ w'.cell? ⟨wr.heap.size + 1, 1, none⟩ = some (.int .i64 lc) ∧ St w w' L ll lc (some ⟨b1, 0, none⟩) K (some ⟨b2, 0, none⟩) (wr.heap.size + 1))
            (first | exact (St.drew (by assumption)).held | exact St.held (by assumption))
            ((go_at_call 15; go_split_ands; refine (St.xpos (by assumption)).mono ?_; rintro e w' ⟨rfl, hst⟩))
          go_wp2
          go_region_held3 (fun w' => w'.cell? ⟨wr.heap.size + 1, 0, none⟩ = some (.int .i64 ll) ∧ w'.cell? ⟨wr.heap.size + 1, 1, none⟩ = some (.int .i64 lc) ∧ St w w' L ll lc (some ⟨b1, 0, none⟩) K (some ⟨b2, 0, none⟩) (wr.heap.size + 1))
            (first | exact (St.drew (by assumption)).held | exact (St.drew (St.drewN (by assumption) _)).held | exact St.held (by assumption))
            ((go_at_call 15; go_split_ands; refine (St.ypos (by assumption)).mono ?_; rintro e w' ⟨rfl, hst⟩))
          go_wp2
          go_ret
          exact ⟨rfl, (by first | exact (St.b (by assumption)).bel | exact (St.b (St.drew (by assumption))).bel | exact (St.b (St.drewN (by assumption) _)).bel | exact (St.b (St.drewN (St.drewN (by assumption) _) _)).bel)⟩
end Go.Proofs.Qxb6608988a.lk
