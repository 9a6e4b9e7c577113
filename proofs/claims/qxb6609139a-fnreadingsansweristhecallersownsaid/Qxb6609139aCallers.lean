/-
  SEAT b6609139a: the walk of FnReadingsAnswerIsTheCallersOwn.
-/
import Derived.Test.Qxb6609139aFlags
namespace Go.Proofs.Qxb6609139a
open Go.RowKit

set_option maxHeartbeats 400000 in
theorem guard11_big (a : Option Addr) (n c : Nat) (w : World) (hn : (1048576 : Int) < (n : Int)) :
    Calls Try.prog 11 #[.slice a n c] w fun e w' => e = .returned (.bool false) ∧ w' = w := by
  go_enter Try.func11, Try.ntmps11
  go_wp2
  go_ret
  exact ⟨rfl, rfl⟩

set_option maxHeartbeats 400000 in
theorem guard11 (a : Option Addr) (n c : Nat) (w : World) (hn : n ≤ 1048576) :
    Calls Try.prog 11 #[.slice a n c] w fun e w' => ABool e ∧ w' = w := by
  go_enter Try.func11, Try.ntmps11
  go_wp2
  all_goals (go_ret; exact ⟨⟨_, rfl⟩, rfl⟩)

set_option maxHeartbeats 400000 in
theorem law5_big (a : Option Addr) (n c : Nat) (w : World) (hn : (1048576 : Int) < (n : Int)) :
    Calls Try.prog 5 #[.slice a n c] w fun e w' => e = .returned (.bool true) ∧ Below w.heap.size w w' := by
  go_enter Try.func5, Try.ntmps5
  go_wp2_with (go_at_call 11; refine (guard11_big _ _ _ _ hn).mono ?_; rintro e w1 ⟨rfl, hw1⟩; subst w1)
  go_ret
  exact ⟨rfl, Below.refl _ _⟩

/-- What the law knows behind the readings: the second's row, the built one's, the flags; the first's row holds anything. -/
structure Own5 (w wr : World) (B : Nat) (a : Option Addr) (n g1 g2 g3 : Nat) (V : Nat → Bool) (BV : Nat → Value) : Prop where
  r1 : ∃ f, wr.rowIs g1 32 n f
  r2 : wr.rowIs g2 32 n BV
  r3 : wr.rowIs g3 32 n BV
  o31 : g3 < g1
  o12 : g1 < g2
  o3 : B ≤ g3
  fl : Early wr B a n V
  bel : Below w.heap.size w wr
  le : w.heap.size ≤ B
theorem Own5.clear {w wr : World} {B : Nat} {a : Option Addr} {n g1 g2 g3 : Nat} {V : Nat → Bool} {BV : Nat → Value} (h : Own5 w wr B a n g1 g2 g3 V BV) (k : Nat) :
    Own5 w (wr.setCell ⟨g1, k, none⟩ (.pointer none)) B a n g1 g2 g3 V BV := by
  obtain ⟨f, hf⟩ := h.r1
  have o31 := h.o31
  have o12 := h.o12
  have o3 := h.o3
  have le := h.le
  exact ⟨⟨_, hf.set k _⟩, h.r2.setOther (by simp; omega) _, h.r3.setOther (by simp; omega) _, o31, o12, o3, h.fl.below ((Below.refl _ _).setCell (by simp; omega) _), h.bel.setCell (by simp; omega) _, le⟩

set_option maxRecDepth 100000 in
set_option maxHeartbeats 4000000 in
theorem law5 (a : Option Addr) (n c : Nat) (V : Nat → Bool) (w : World) (hn : n ≤ 1048576)
    (hcell : ∀ x, a = some x → ∀ i, i < n → w.cell? (x.add i) = some (.bool (V i))) (hnil : a = none → n = 0 ∧ c = 0) :
    Calls Try.prog 5 #[.slice a n c] w fun e w' => e = .returned (.bool true) ∧ Below w.heap.size w w' := by
  have HC : Hid (∀ x, a = some x → ∀ i, i < n → w.cell? (x.add i) = some (.bool (V i))) := hcell
  have HN : Hid (a = none → n = 0 ∧ c = 0) := hnil
  clear hcell hnil
  have q := qn27
  have hmk := run_make_row' (P := Try.prog) 27 4 (.bool false) 1 Try.underlying27 Try.info4 rfl .i64 .i64 n (by omega) (by omega)
  go_enter Try.func5, Try.ntmps5
  go_wp2_with fail
  refine (guard11 a n c _ hn).mono ?_
  rintro e w1 ⟨⟨b, rfl⟩, hw1⟩
  subst w1
  cases b
  · go_wp2
    go_ret
    exact ⟨rfl, Below.refl _ _⟩
  by_cases gp : (65536 : Int) < (n : Int)
  · go_wp2
    go_ret
    exact ⟨rfl, Below.refl _ _⟩
  go_upto_if 16 with fail
  go_cut [0] (fun t wx => ∃ a' cp', t = .slice a' n cp' ∧ Bools wx a' n V ∧ Below w.heap.size w wx)
  case first =>
    cases a with
    | none =>
      have hn0 : n ≤ 0 := by have := (HN.out rfl).1; omega
      go_wp2
      go_meet
      exact ⟨none, c, rfl, fun i hi => absurd hi (by omega), Below.refl _ _⟩
    | some x =>
      obtain ⟨w2, hcp, hrow, hbel⟩ := fresh_copy (P := Try.prog) w 27 4 3 (.bool false) n c x (fun i => .bool (V i)) Try.underlying27 Try.size4 (HC.out x rfl) (fun _ => rfl)
      have HR : Hid (w2.rowIs w.heap.size 4 n (fun i => .bool (V i))) := hrow
      clear hrow
      go_wp2
      go_meet
      exact ⟨some ⟨w.heap.size, 0, none⟩, n, rfl, fun i hi => ⟨w.heap.size, rfl, HR.out.cell hi⟩, hbel⟩
  case rest =>
  obtain ⟨a', cp', rfl, hS, hB⟩ := hcut
  have HS : Hid (Bools wc a' n V) := hS
  have HB : Hid (Below w.heap.size w wc) := hB
  clear hS hB HC HN hmk q
  go_wp2_with fail
  refine (twice12 a' n cp' V _ hn HS.out).mono ?_
  rintro e w3 ⟨g1, g2, g3, BV, rfl, hfit, hr1, hr2, hr3, o31, o12, o3, hb3⟩
  have HF : Hid (Fits V BV n) := hfit
  have HO : Hid (Own5 w w3 wc.heap.size a' n g1 g2 g3 V BV) := ⟨⟨_, hr1⟩, hr2, hr3, o31, o12, o3, HS.out.early.below hb3, HB.out.trans (hb3.mono HB.out.size), HB.out.size⟩
  clear hfit hr1 hr2 hr3 o31 o12 o3 hb3 HS HB
  go_wp2
  go_loopw [7] (fun i wr => ∃ k : Nat, k ≤ n ∧ i = .int .i64 k ∧ Own5 w wr wc.heap.size a' n g1 g2 g3 V BV) (fun i _ => n - (intOf i).toNat)
  case atStart => exact ⟨0, Nat.zero_le _, rfl, HO.out⟩
  case round =>
    obtain ⟨k, hk, rfl, hown⟩ := hrel
    have HW : Hid (Own5 w wr wc.heap.size a' n g1 g2 g3 V BV) := hown
    clear hown HO
    by_cases hlt : k < n
    · obtain ⟨f, hf⟩ := HW.out.r1
      have hc := hf.cell hlt
      have hz := hf.frozen k
      clear hf HF
      go_wp2
      go_roundw
      case rel => exact ⟨k + 1, by omega, by go_num, HW.out.clear k⟩
      case measure => simp [intOf]; omega
    · go_wp2
      clear hk hlt
      go_loopw [8] (fun i wx => ∃ k : Nat, k ≤ n ∧ i = .int .i64 k ∧ ∃ m, wx = wr.drewN m) (fun i _ => n - (intOf i).toNat)
      case atStart => exact ⟨0, Nat.zero_le _, rfl, 0, rfl⟩
      case round =>
        obtain ⟨k2, hk2, rfl, m, rfl⟩ := hrel
        by_cases hlt : k2 < n
        · obtain ⟨g, hg, rfl, hc⟩ := HW.out.fl k2 hlt
          have h2 := HW.out.r2.cell hlt
          have h3 := HW.out.r3.cell hlt
          have i1 : (k2 : Int) < (n : Int) := by omega
          have i0 : (0 : Int) ≤ (k2 : Int) := by omega
          rcases HF.out k2 hlt with ⟨hv, R, hR⟩ | ⟨hv, hR⟩
          · rw [hv] at hc
            rw [hR] at h2 h3
            have hs := same32 R
            clear HF hv hR
            go_wp2
            go_quiet (fail)
            go_wp2
            go_roundw
            case rel => exact ⟨k2 + 1, by omega, by go_num, m + nq, by simp⟩
            case measure => simp [intOf]; omega
          · rw [hv] at hc
            rw [hR] at h2 h3
            clear HF hv hR
            go_wp2
            go_roundw
            case rel => exact ⟨k2 + 1, by omega, by go_num, m, rfl⟩
            case measure => simp [intOf]; omega
        · go_wp2
          go_ret
          exact ⟨rfl, drawn_below HW.out.bel _⟩
end Go.Proofs.Qxb6609139a
