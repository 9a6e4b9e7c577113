/-
  SEAT b6608988a: the walk of FnBinaryPosOfJoinIsLeftPartsPos.
-/
import Derived.Test.Qxb6608988aChain
import Derived.Deep.QuietTactic
import Derived.BigQuiet
namespace Go.Proofs.Qxb6608988a
open Go.RowKit

/-- What the law knows of its two chains, in whatever later world. -/
structure Facts (w0 w : World) (La Lb : Nat) (al ac bl bc : Int) (x1 x2 : Option Addr) : Prop where
  la : LitAt w La al ac
  lb : LitAt w Lb bl bc
  ca : ChainAt w (.iface 25 (ptrV La)) x1
  cb : ChainAt w (.iface 25 (ptrV Lb)) x2
  bel : Below w0.heap.size w0 w
theorem Facts.below {w0 w w' : World} {La Lb : Nat} {al ac bl bc : Int} {x1 x2 : Option Addr} (h : Facts w0 w La Lb al ac bl bc x1 x2) (hb : Below w.heap.size w w') : Facts w0 w' La Lb al ac bl bc x1 x2 :=
  ⟨h.la.below hb, h.lb.below hb, h.ca.below hb, h.cb.below hb, h.bel.trans (hb.mono h.bel.size)⟩

/-- What the law knows when all is built: J: the join, A, B: the two places that are wanted. -/
structure St (w0 w : World) (La Lb : Nat) (al ac bl bc : Int) (x1 x2 : Option Addr) (J A B : Nat) : Prop where
  f : Facts w0 w La Lb al ac bl bc x1 x2
  j : ∃ v0 m, w.cell? ⟨J, 0, none⟩ = some v0 ∧ LeftAt w (.iface 25 (ptrV La)) m v0
  a : PosAt w A al ac
  b : PosAt w B bl bc
theorem PosAt.below {w w' : World} {L : Nat} {l c : Int} (hb : Below w.heap.size w w') (h : PosAt w L l c) : PosAt w' L l c := LitAt.below hb h
theorem St.below {w0 w w' : World} {La Lb : Nat} {al ac bl bc : Int} {x1 x2 : Option Addr} {J A B : Nat} (h : St w0 w La Lb al ac bl bc x1 x2 J A B) (hb : Below w.heap.size w w') : St w0 w' La Lb al ac bl bc x1 x2 J A B := by
  obtain ⟨v0, m, hc, hl⟩ := h.j
  exact ⟨h.f.below hb, ⟨v0, m, (hb.cell (p := ⟨J, 0, none⟩) (World.block_lt_of_cell? w _ hc)).trans hc, hl.below hb⟩, h.a.below hb, h.b.below hb⟩
section
variable {w0 w : World} {La Lb : Nat} {al ac bl bc : Int} {x1 x2 : Option Addr} {J A B : Nat}
theorem St.jpos (h : St w0 w La Lb al ac bl bc x1 x2 J A B) : Calls Try.prog 15 #[ptrV J] w fun e w' => e = .returned (posV al ac) ∧ St w0 w' La Lb al ac bl bc x1 x2 J A B := by
  obtain ⟨v0, m, hc, hl⟩ := h.j
  exact (binPos_lit J m La v0 al ac w hc hl h.f.la).mono fun e w' ⟨he, hb⟩ => ⟨he, h.below hb⟩
theorem St.apos (h : St w0 w La Lb al ac bl bc x1 x2 J A B) : Calls Try.prog 16 #[ptrV La] w fun e w' => e = .returned (posV al ac) ∧ St w0 w' La Lb al ac bl bc x1 x2 J A B :=
  (litPos16 La al ac w h.f.la.1 h.f.la.2).mono fun e w' ⟨he, hb⟩ => ⟨he, h.below (by rw [hb]; exact (Below.refl _ _).alloc (Nat.le_refl _) _)⟩
theorem St.bpos (h : St w0 w La Lb al ac bl bc x1 x2 J A B) : Calls Try.prog 16 #[ptrV Lb] w fun e w' => e = .returned (posV bl bc) ∧ St w0 w' La Lb al ac bl bc x1 x2 J A B :=
  (litPos16 Lb bl bc w h.f.lb.1 h.f.lb.2).mono fun e w' ⟨he, hb⟩ => ⟨he, h.below (by rw [hb]; exact (Below.refl _ _).alloc (Nat.le_refl _) _)⟩
theorem St.xpos {b1 : Nat} (h : St w0 w La Lb al ac bl bc (some ⟨b1, 0, none⟩) x2 J A B) : Calls Try.prog 15 #[ptrV b1] w fun e w' => e = .returned (posV al ac) ∧ St w0 w' La Lb al ac bl bc (some ⟨b1, 0, none⟩) x2 J A B := by
  rcases h.f.ca with h' | ⟨b, m, v0, e, hc, hl⟩
  · cases h'
  · cases e
    exact (binPos_lit b1 m La v0 al ac w hc hl h.f.la).mono fun e w' ⟨he, hb⟩ => ⟨he, h.below hb⟩
theorem St.ypos {b2 : Nat} (h : St w0 w La Lb al ac bl bc x1 (some ⟨b2, 0, none⟩) J A B) : Calls Try.prog 15 #[ptrV b2] w fun e w' => e = .returned (posV bl bc) ∧ St w0 w' La Lb al ac bl bc x1 (some ⟨b2, 0, none⟩) J A B := by
  rcases h.f.cb with h' | ⟨b, m, v0, e, hc, hl⟩
  · cases h'
  · cases e
    exact (binPos_lit b2 m Lb v0 bl bc w hc hl h.f.lb).mono fun e w' ⟨he, hb⟩ => ⟨he, h.below hb⟩
/-- The cells that the law's last tests load, beside all that is known. -/
theorem St.held (h : St w0 w La Lb al ac bl bc x1 x2 J A B) : w.cell? ⟨A, 0, none⟩ = some (.int .i64 al) ∧ w.cell? ⟨A, 1, none⟩ = some (.int .i64 ac) ∧ w.cell? ⟨B, 0, none⟩ = some (.int .i64 bl) ∧ w.cell? ⟨B, 1, none⟩ = some (.int .i64 bc) ∧ St w0 w La Lb al ac bl bc x1 x2 J A B :=
  ⟨h.a.1, h.a.2, h.b.1, h.b.2, h⟩
theorem St.drew (h : St w0 w La Lb al ac bl bc x1 x2 J A B) : St w0 w.drew La Lb al ac bl bc x1 x2 J A B := h.below (Below.refl _ _).drew
theorem St.drewN (h : St w0 w La Lb al ac bl bc x1 x2 J A B) (n : Nat) : St w0 (w.drewN n) La Lb al ac bl bc x1 x2 J A B := h.below ⟨rfl, rfl, rfl, Nat.le_refl _, fun _ _ => rfl⟩
end

/-- All is built, in eight new blocks. -/
theorem st_of {w0 w : World} {La Lb : Nat} {al ac bl bc : Int} {x1 x2 : Option Addr} {v0 : Value} {m : Nat} (h : Facts w0 w La Lb al ac bl bc x1 x2) (hl : LeftAt w (.iface 25 (ptrV La)) m v0) (o1 o2 o3 o5 o7 : Obj) (p q r t : Value) :
    St w0 ((((((((w.alloc o1).alloc o2).alloc o3).alloc (.cells #[v0, p, q, r, t] 64)).alloc o5).alloc (.cells #[.int .i64 al, .int .i64 ac] 30)).alloc o7).alloc (.cells #[.int .i64 bl, .int .i64 bc] 30)) La Lb al ac bl bc x1 x2
      (w.heap.size + 1 + 1 + 1) (w.heap.size + 1 + 1 + 1 + 1 + 1) (w.heap.size + 1 + 1 + 1 + 1 + 1 + 1 + 1) := by
  have hb : Below w.heap.size w ((((((((w.alloc o1).alloc o2).alloc o3).alloc (.cells #[v0, p, q, r, t] 64)).alloc o5).alloc (.cells #[.int .i64 al, .int .i64 ac] 30)).alloc o7).alloc (.cells #[.int .i64 bl, .int .i64 bc] 30)) :=
    ((((((((Below.refl _ _).alloc (Nat.le_refl _) _).alloc (by simp) _).alloc (by simp; omega) _).alloc (by simp; omega) _).alloc (by simp; omega) _).alloc (by simp; omega) _).alloc (by simp; omega) _).alloc (by simp; omega) _
  refine ⟨h.below hb, ⟨v0, m, ?_, hl.below hb⟩, ⟨?_, ?_⟩, ⟨?_, ?_⟩⟩
  · rw [World.cell?_alloc_past _ _ _ (by simp), World.cell?_alloc_past _ _ _ (by simp), World.cell?_alloc_past _ _ _ (by simp), World.cell?_alloc_past _ _ _ (by simp), World.cell?_alloc_at _ _ _ _ (by simp)]; rfl
  · rw [World.cell?_alloc_past _ _ _ (by simp), World.cell?_alloc_past _ _ _ (by simp), World.cell?_alloc_at _ _ _ _ (by simp)]; rfl
  · rw [World.cell?_alloc_past _ _ _ (by simp), World.cell?_alloc_past _ _ _ (by simp), World.cell?_alloc_at _ _ _ _ (by simp)]; rfl
  · rw [World.cell?_alloc_at _ _ _ _ (by simp)]; rfl
  · rw [World.cell?_alloc_at _ _ _ _ (by simp)]; rfl

set_option maxRecDepth 100000 in
set_option maxHeartbeats 4000000 in
theorem law3 (al ac av : Int) (a1 : Option Addr) (n1 c1 : Nat) (op : ByteArray) (ol oc bl bc bv : Int) (a2 : Option Addr) (n2 c2 : Nat) (w : World) (h1 : Lev w a1 n1) (h2 : Lev w a2 n2) :
    Calls Try.prog 3 #[.int .i64 al, .int .i64 ac, .int .i64 av, .slice a1 n1 c1, .string op, .int .i64 ol, .int .i64 oc, .int .i64 bl, .int .i64 bc, .int .i64 bv, .slice a2 n2 c2] w
      fun e w' => e = .returned (.bool true) ∧ Below w.heap.size w w' := by
  have H1 : Hid (Lev w a1 n1) := h1
  have H2 : Hid (Lev w a2 n2) := h2
  clear h1 h2
  by_cases g1 : (16384 : Int) < (n1 : Int)
  · go_enter Try.func3, Try.ntmps3
    go_wp2_with (go_at_call 7; refine (guard7 _ _ _ _ _ _ _ _ _ _ _ _ _ _ _ _ H1.out H2.out).mono ?_; rintro e w1 ⟨⟨b, rfl⟩, hw1⟩; subst w1)
    all_goals (go_ret; exact ⟨rfl, Below.refl _ _⟩)
  by_cases g2 : (16384 : Int) < (n2 : Int)
  · go_enter Try.func3, Try.ntmps3
    go_wp2_with (go_at_call 7; refine (guard7 _ _ _ _ _ _ _ _ _ _ _ _ _ _ _ _ H1.out H2.out).mono ?_; rintro e w1 ⟨⟨b, rfl⟩, hw1⟩; subst w1)
    all_goals (go_ret; exact ⟨rfl, Below.refl _ _⟩)
  by_cases g3 : (65536 : Int) < (op.size : Int)
  · go_enter Try.func3, Try.ntmps3
    go_wp2_with (go_at_call 7; refine (guard7 _ _ _ _ _ _ _ _ _ _ _ _ _ _ _ _ H1.out H2.out).mono ?_; rintro e w1 ⟨⟨b, rfl⟩, hw1⟩; subst w1)
    all_goals (go_ret; exact ⟨rfl, Below.refl _ _⟩)
  go_enter Try.func3, Try.ntmps3
  go_wp2_with fail
  refine (guard7 _ _ _ _ _ _ _ _ _ _ _ _ _ _ _ _ H1.out H2.out).mono ?_
  rintro e w1 ⟨⟨b, rfl⟩, hw1⟩
  subst w1
  cases b
  · go_wp2
    go_ret
    exact ⟨rfl, Below.refl _ _⟩
  go_wp2_with fail
  refine (size8 _ _ _ _ _ (by omega) H1.out).mono ?_
  rintro e w1 ⟨⟨t1, rfl⟩, hw1⟩
  subst w1
  by_cases gt1 : 1048576 < t1
  · go_wp2
    go_ret
    exact ⟨rfl, Below.refl _ _⟩
  go_wp2_with fail
  refine (size8 _ _ _ _ _ (by omega) H2.out).mono ?_
  rintro e w1 ⟨⟨t2, rfl⟩, hw1⟩
  subst w1
  by_cases gt2 : 1048576 < t2
  · go_wp2
    go_ret
    exact ⟨rfl, Below.refl _ _⟩
  go_wp2_with fail
  refine (chain9 _ _ _ _ _ _ _ (by omega) H1.out).mono ?_
  rintro e w2 ⟨La, x1, rfl, hla, hb1, hca⟩
  have H2' : Hid (Lev w2 a2 n2) := H2.out.below hb1
  have HA : Hid (LitAt w2 La al ac ∧ Below w.heap.size w w2 ∧ ChainAt w2 (.iface 25 (ptrV La)) x1) := ⟨hla, hb1, hca⟩
  clear hla hb1 hca H1 H2
  go_wp2_with fail
  refine (chain9 _ _ _ _ _ _ _ (by omega) H2'.out).mono ?_
  rintro e w3 ⟨Lb, x2, rfl, hlb, hb2, hcb⟩
  have HF : Facts w w3 La Lb al ac bl bc x1 x2 := ⟨HA.out.1.below hb2, hlb, HA.out.2.2.below hb2, hcb, HA.out.2.1.trans (hb2.mono HA.out.2.1.size)⟩
  clear hlb hb2 hcb HA H2' gt1 gt2
  have HFH : Hid (Facts w w3 La Lb al ac bl bc x1 x2) := HF
  have q1 : x1 = none ∨ ∃ b, x1 = some ⟨b, 0, none⟩ := by
    rcases HF.ca with h | ⟨b, _, _, h, _⟩
    · exact .inl h
    · exact .inr ⟨b, h⟩
  have q2 : x2 = none ∨ ∃ b, x2 = some ⟨b, 0, none⟩ := by
    rcases HF.cb with h | ⟨b, _, _, h, _⟩
    · exact .inl h
    · exact .inr ⟨b, h⟩
  clear HF
  rcases q1 with rfl | ⟨b1, rfl⟩
  · rcases q2 with rfl | ⟨b2, rfl⟩
    · go_wp2_with (first | (go_at_call 10; refine (pos10 _ _ _).mono ?_; rintro e w' ⟨rfl, rfl⟩) | (go_at_call 11; refine (bin11 _ _ _ _ _ _).mono ?_; rintro e w' ⟨rfl, rfl⟩))
      go_region_held3 (fun w' => w'.cell? ⟨w3.heap.size + 1 + 1 + 1 + 1 + 1, 0, none⟩ = some (.int .i64 al) ∧ w'.cell? ⟨w3.heap.size + 1 + 1 + 1 + 1 + 1, 1, none⟩ = some (.int .i64 ac) ∧ w'.cell? ⟨w3.heap.size + 1 + 1 + 1 + 1 + 1 + 1 + 1, 0, none⟩ = some (.int .i64 bl) ∧ w'.cell? ⟨w3.heap.size + 1 + 1 + 1 + 1 + 1 + 1 + 1, 1, none⟩ = some (.int .i64 bc) ∧ St w w' La Lb al ac bl bc none none (w3.heap.size + 1 + 1 + 1) (w3.heap.size + 1 + 1 + 1 + 1 + 1) (w3.heap.size + 1 + 1 + 1 + 1 + 1 + 1 + 1))
        (first | exact (st_of HFH.out (m := 0) rfl _ _ _ _ _ _ _ _ _).drew.held | exact St.held (by assumption))
        (first | (go_at_call 15; go_split_ands; refine (St.jpos (by assumption)).mono ?_; rintro e w' ⟨rfl, hst⟩) | (go_at_call_of 16 (ptrV La); go_split_ands; refine (St.apos (by assumption)).mono ?_; rintro e w' ⟨rfl, hst⟩) | (go_at_call_of 16 (ptrV Lb); go_split_ands; refine (St.bpos (by assumption)).mono ?_; rintro e w' ⟨rfl, hst⟩))
      go_wp2
      go_quiet (fail)
      go_wp2
      go_quiet (fail)
      go_wp2
      go_ret
      exact ⟨rfl, (by first | exact (St.f (by assumption)).bel | exact (St.f (St.drew (by assumption))).bel | exact (St.f (St.drewN (by assumption) _)).bel | exact (St.f (St.drewN (St.drewN (by assumption) _) _)).bel)⟩
    · go_wp2_with (first | (go_at_call 10; refine (pos10 _ _ _).mono ?_; rintro e w' ⟨rfl, rfl⟩) | (go_at_call 12; refine (bin12 _ _ _ _ _ _).mono ?_; rintro e w' ⟨rfl, rfl⟩))
      go_region_held3 (fun w' => w'.cell? ⟨w3.heap.size + 1 + 1 + 1 + 1 + 1, 0, none⟩ = some (.int .i64 al) ∧ w'.cell? ⟨w3.heap.size + 1 + 1 + 1 + 1 + 1, 1, none⟩ = some (.int .i64 ac) ∧ w'.cell? ⟨w3.heap.size + 1 + 1 + 1 + 1 + 1 + 1 + 1, 0, none⟩ = some (.int .i64 bl) ∧ w'.cell? ⟨w3.heap.size + 1 + 1 + 1 + 1 + 1 + 1 + 1, 1, none⟩ = some (.int .i64 bc) ∧ St w w' La Lb al ac bl bc none (some ⟨b2, 0, none⟩) (w3.heap.size + 1 + 1 + 1) (w3.heap.size + 1 + 1 + 1 + 1 + 1) (w3.heap.size + 1 + 1 + 1 + 1 + 1 + 1 + 1))
        (first | exact (st_of HFH.out (m := 0) rfl _ _ _ _ _ _ _ _ _).drew.held | exact St.held (by assumption))
        (first | (go_at_call 15; go_split_ands; refine (St.jpos (by assumption)).mono ?_; rintro e w' ⟨rfl, hst⟩) | (go_at_call_of 16 (ptrV La); go_split_ands; refine (St.apos (by assumption)).mono ?_; rintro e w' ⟨rfl, hst⟩) | (go_at_call_of 16 (ptrV Lb); go_split_ands; refine (St.bpos (by assumption)).mono ?_; rintro e w' ⟨rfl, hst⟩))
      go_wp2
      go_quiet (fail)
      go_wp2
      go_region_held3 (fun w' => w'.cell? ⟨w3.heap.size + 1 + 1 + 1 + 1 + 1, 0, none⟩ = some (.int .i64 al) ∧ w'.cell? ⟨w3.heap.size + 1 + 1 + 1 + 1 + 1, 1, none⟩ = some (.int .i64 ac) ∧ w'.cell? ⟨w3.heap.size + 1 + 1 + 1 + 1 + 1 + 1 + 1, 0, none⟩ = some (.int .i64 bl) ∧ w'.cell? ⟨w3.heap.size + 1 + 1 + 1 + 1 + 1 + 1 + 1, 1, none⟩ = some (.int .i64 bc) ∧ St w w' La Lb al ac bl bc none (some ⟨b2, 0, none⟩) (w3.heap.size + 1 + 1 + 1) (w3.heap.size + 1 + 1 + 1 + 1 + 1) (w3.heap.size + 1 + 1 + 1 + 1 + 1 + 1 + 1))
        (first | exact (St.drew (by assumption)).held | exact (St.drew (St.drewN (by assumption) _)).held | exact St.held (by assumption))
        ((go_at_call 15; go_split_ands; refine (St.ypos (by assumption)).mono ?_; rintro e w' ⟨rfl, hst⟩))
      go_wp2
      go_ret
      exact ⟨rfl, (by first | exact (St.f (by assumption)).bel | exact (St.f (St.drew (by assumption))).bel | exact (St.f (St.drewN (by assumption) _)).bel | exact (St.f (St.drewN (St.drewN (by assumption) _) _)).bel)⟩
  · have HM : Hid (∃ m, LeftAt w3 (.iface 25 (ptrV La)) m (.iface 26 (ptrV b1))) := by
      rcases HFH.out.ca with h | ⟨b, m, v0, h, hc, hl⟩
      · cases h
      · cases h
        exact ⟨m + 1, b1, v0, rfl, hc, hl⟩
    rcases q2 with rfl | ⟨b2, rfl⟩
    · obtain ⟨m1, hm1⟩ := HM.out
      go_wp2_with (first | (go_at_call 10; refine (pos10 _ _ _).mono ?_; rintro e w' ⟨rfl, rfl⟩) | (go_at_call 13; refine (bin13 _ _ _ _ _ _).mono ?_; rintro e w' ⟨rfl, rfl⟩))
      go_region_held3 (fun w' => w'.cell? ⟨w3.heap.size + 1 + 1 + 1 + 1 + 1, 0, none⟩ = some (.int .i64 al) ∧ w'.cell? ⟨w3.heap.size + 1 + 1 + 1 + 1 + 1, 1, none⟩ = some (.int .i64 ac) ∧ w'.cell? ⟨w3.heap.size + 1 + 1 + 1 + 1 + 1 + 1 + 1, 0, none⟩ = some (.int .i64 bl) ∧ w'.cell? ⟨w3.heap.size + 1 + 1 + 1 + 1 + 1 + 1 + 1, 1, none⟩ = some (.int .i64 bc) ∧ St w w' La Lb al ac bl bc (some ⟨b1, 0, none⟩) none (w3.heap.size + 1 + 1 + 1) (w3.heap.size + 1 + 1 + 1 + 1 + 1) (w3.heap.size + 1 + 1 + 1 + 1 + 1 + 1 + 1))
        (first | exact (st_of HFH.out hm1 _ _ _ _ _ _ _ _ _).drew.held | exact St.held (by assumption))
        (first | (go_at_call 15; go_split_ands; refine (St.jpos (by assumption)).mono ?_; rintro e w' ⟨rfl, hst⟩) | (go_at_call_of 16 (ptrV La); go_split_ands; refine (St.apos (by assumption)).mono ?_; rintro e w' ⟨rfl, hst⟩) | (go_at_call_of 16 (ptrV Lb); go_split_ands; refine (St.bpos (by assumption)).mono ?_; rintro e w' ⟨rfl, hst⟩))
      go_wp2
      go_region_held3 (fun w' => w'.cell? ⟨w3.heap.size + 1 + 1 + 1 + 1 + 1, 0, none⟩ = some (.int .i64 al) ∧ w'.cell? ⟨w3.heap.size + 1 + 1 + 1 + 1 + 1, 1, none⟩ = some (.int .i64 ac) ∧ w'.cell? ⟨w3.heap.size + 1 + 1 + 1 + 1 + 1 + 1 + 1, 0, none⟩ = some (.int .i64 bl) ∧ w'.cell? ⟨w3.heap.size + 1 + 1 + 1 + 1 + 1 + 1 + 1, 1, none⟩ = some (.int .i64 bc) ∧ St w w' La Lb al ac bl bc (some ⟨b1, 0, none⟩) none (w3.heap.size + 1 + 1 + 1) (w3.heap.size + 1 + 1 + 1 + 1 + 1) (w3.heap.size + 1 + 1 + 1 + 1 + 1 + 1 + 1))
        (first | exact (St.drew (by assumption)).held | exact St.held (by assumption))
        ((go_at_call 15; go_split_ands; refine (St.xpos (by assumption)).mono ?_; rintro e w' ⟨rfl, hst⟩))
      go_wp2
      go_quiet (fail)
      go_wp2
      go_ret
      exact ⟨rfl, (by first | exact (St.f (by assumption)).bel | exact (St.f (St.drew (by assumption))).bel | exact (St.f (St.drewN (by assumption) _)).bel | exact (St.f (St.drewN (St.drewN (by assumption) _) _)).bel)⟩
    · obtain ⟨m1, hm1⟩ := HM.out
      go_wp2_with (first | (go_at_call 10; refine (pos10 _ _ _).mono ?_; rintro e w' ⟨rfl, rfl⟩) | (go_at_call 14; refine (bin14 _ _ _ _ _ _).mono ?_; rintro e w' ⟨rfl, rfl⟩))
      go_region_held3 (fun w' => w'.cell? ⟨w3.heap.size + 1 + 1 + 1 + 1 + 1, 0, none⟩ = some (.int .i64 al) ∧ w'.cell? ⟨w3.heap.size + 1 + 1 + 1 + 1 + 1, 1, none⟩ = some (.int .i64 ac) ∧ w'.cell? ⟨w3.heap.size + 1 + 1 + 1 + 1 + 1 + 1 + 1, 0, none⟩ = some (.int .i64 bl) ∧ w'.cell? ⟨w3.heap.size + 1 + 1 + 1 + 1 + 1 + 1 + 1, 1, none⟩ = some (.int .i64 bc) ∧ St w w' La Lb al ac bl bc (some ⟨b1, 0, none⟩) (some ⟨b2, 0, none⟩) (w3.heap.size + 1 + 1 + 1) (w3.heap.size + 1 + 1 + 1 + 1 + 1) (w3.heap.size + 1 + 1 + 1 + 1 + 1 + 1 + 1))
        (first | exact (st_of HFH.out hm1 _ _ _ _ _ _ _ _ _).drew.held | exact St.held (by assumption))
        (first | (go_at_call 15; go_split_ands; refine (St.jpos (by assumption)).mono ?_; rintro e w' ⟨rfl, hst⟩) | (go_at_call_of 16 (ptrV La); go_split_ands; refine (St.apos (by assumption)).mono ?_; rintro e w' ⟨rfl, hst⟩) | (go_at_call_of 16 (ptrV Lb); go_split_ands; refine (St.bpos (by assumption)).mono ?_; rintro e w' ⟨rfl, hst⟩))
      go_wp2
      go_region_held3 (fun w' => w'.cell? ⟨w3.heap.size + 1 + 1 + 1 + 1 + 1, 0, none⟩ = some (.int .i64 al) ∧ w'.cell? ⟨w3.heap.size + 1 + 1 + 1 + 1 + 1, 1, none⟩ = some (.int .i64 ac) ∧ w'.cell? ⟨w3.heap.size + 1 + 1 + 1 + 1 + 1 + 1 + 1, 0, none⟩ = some (.int .i64 bl) ∧ w'.cell? ⟨w3.heap.size + 1 + 1 + 1 + 1 + 1 + 1 + 1, 1, none⟩ = some (.int .i64 bc) ∧ St w w' La Lb al ac bl bc (some ⟨b1, 0, none⟩) (some ⟨b2, 0, none⟩) (w3.heap.size + 1 + 1 + 1) (w3.heap.size + 1 + 1 + 1 + 1 + 1) (w3.heap.size + 1 + 1 + 1 + 1 + 1 + 1 + 1))
        (first | exact (St.drew (by assumption)).held | exact St.held (by assumption))
        ((go_at_call 15; go_split_ands; refine (St.xpos (by assumption)).mono ?_; rintro e w' ⟨rfl, hst⟩))
      go_wp2
      go_region_held3 (fun w' => w'.cell? ⟨w3.heap.size + 1 + 1 + 1 + 1 + 1, 0, none⟩ = some (.int .i64 al) ∧ w'.cell? ⟨w3.heap.size + 1 + 1 + 1 + 1 + 1, 1, none⟩ = some (.int .i64 ac) ∧ w'.cell? ⟨w3.heap.size + 1 + 1 + 1 + 1 + 1 + 1 + 1, 0, none⟩ = some (.int .i64 bl) ∧ w'.cell? ⟨w3.heap.size + 1 + 1 + 1 + 1 + 1 + 1 + 1, 1, none⟩ = some (.int .i64 bc) ∧ St w w' La Lb al ac bl bc (some ⟨b1, 0, none⟩) (some ⟨b2, 0, none⟩) (w3.heap.size + 1 + 1 + 1) (w3.heap.size + 1 + 1 + 1 + 1 + 1) (w3.heap.size + 1 + 1 + 1 + 1 + 1 + 1 + 1))
        (first | exact (St.drew (by assumption)).held | exact (St.drew (St.drewN (by assumption) _)).held | exact St.held (by assumption))
        ((go_at_call 15; go_split_ands; refine (St.ypos (by assumption)).mono ?_; rintro e w' ⟨rfl, hst⟩))
      go_wp2
      go_ret
      exact ⟨rfl, (by first | exact (St.f (by assumption)).bel | exact (St.f (St.drew (by assumption))).bel | exact (St.f (St.drewN (by assumption) _)).bel | exact (St.f (St.drewN (St.drewN (by assumption) _) _)).bel)⟩
end Go.Proofs.Qxb6608988a
