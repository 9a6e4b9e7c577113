/-
  SEAT b6609139a: the walk of FnReadingsCutAtAnyPlace.
-/
import Derived.Test.Qxb6609139aSplit
namespace Go.Proofs.Qxb6609139a
open Go.RowKit

theorem draws1 (w : World) (a b : Nat) : ∃ m, (w.drewN a).drewN b = w.drewN m := ⟨a + b, by simp⟩
theorem draws2 (w : World) (a b c : Nat) : ∃ m, ((w.drewN a).drewN b).drewN c = w.drewN m := ⟨a + b + c, by simp⟩

set_option maxHeartbeats 400000 in
theorem guard9_big (a : Option Addr) (n c : Nat) (k : Int) (w : World) (hn : (1048576 : Int) < (n : Int)) :
    Calls Try.prog 9 #[.slice a n c, .int .i64 k] w fun e w' => e = .returned (.bool false) ∧ w' = w := by
  go_enter Try.func9, Try.ntmps9
  go_wp2
  go_ret
  exact ⟨rfl, rfl⟩

set_option maxHeartbeats 400000 in
theorem guard9 (a : Option Addr) (n c : Nat) (k : Int) (w : World) (hn : n ≤ 1048576) :
    Calls Try.prog 9 #[.slice a n c, .int .i64 k] w fun e w' => ABool e ∧ w' = w := by
  go_enter Try.func9, Try.ntmps9
  go_wp2
  all_goals (go_ret; exact ⟨⟨_, rfl⟩, rfl⟩)

set_option maxHeartbeats 400000 in
theorem law4_big (a : Option Addr) (n c : Nat) (k : Int) (w : World) (hn : (1048576 : Int) < (n : Int)) :
    Calls Try.prog 4 #[.slice a n c, .int .i64 k] w fun e w' => e = .returned (.bool true) ∧ Below w.heap.size w w' := by
  go_enter Try.func4, Try.ntmps4
  go_wp2_with (go_at_call 9; refine (guard9_big _ _ _ _ _ hn).mono ?_; rintro e w1 ⟨rfl, hw1⟩; subst w1)
  go_ret
  exact ⟨rfl, Below.refl _ _⟩

set_option maxHeartbeats 1000000 in
theorem law4_out (a : Option Addr) (n c : Nat) (k : Int) (w : World) (hn : n ≤ 1048576) (hk : 65536 < (n : Int) ∨ k < 0 ∨ (n : Int) < k) :
    Calls Try.prog 4 #[.slice a n c, .int .i64 k] w fun e w' => e = .returned (.bool true) ∧ Below w.heap.size w w' := by
  go_enter Try.func4, Try.ntmps4
  go_wp2_with fail
  refine (guard9 a n c k _ hn).mono ?_
  rintro e w1 ⟨⟨b, rfl⟩, hw1⟩
  subst w1
  cases b
  · go_wp2
    go_ret
    exact ⟨rfl, Below.refl _ _⟩
  by_cases gp : (65536 : Int) < (n : Int)
  · go_wp2
    go_ret
    exact ⟨rfl, Below.refl _ _⟩
  by_cases k0 : k < 0
  · go_wp2
    go_ret
    exact ⟨rfl, Below.refl _ _⟩
  · have kn : (n : Int) < k := by omega
    clear hk
    go_wp2
    go_ret
    exact ⟨rfl, Below.refl _ _⟩

set_option maxRecDepth 100000 in
set_option maxHeartbeats 4000000 in
theorem law4 (a : Option Addr) (n c k : Nat) (V : Nat → Bool) (w : World) (hn : n ≤ 65536) (hk : k ≤ n)
    (hcell : ∀ x, a = some x → ∀ i, i < n → w.cell? (x.add i) = some (.bool (V i))) (hnil : a = none → n = 0 ∧ c = 0) :
    Calls Try.prog 4 #[.slice a n c, .int .i64 k] w fun e w' => e = .returned (.bool true) ∧ Below w.heap.size w w' := by
  have HC : Hid (∀ x, a = some x → ∀ i, i < n → w.cell? (x.add i) = some (.bool (V i))) := hcell
  have HN : Hid (a = none → n = 0 ∧ c = 0) := hnil
  clear hcell hnil
  have q := qn27
  have hmk := run_make_row' (P := Try.prog) 27 4 (.bool false) 1 Try.underlying27 Try.info4 rfl .i64 .i64 n (by omega) (by omega)
  have p1 : ¬ (65536 : Int) < (n : Int) := by omega
  have p2 : ¬ (k : Int) < 0 := by omega
  have p3 : ¬ (n : Int) < (k : Int) := by omega
  go_enter Try.func4, Try.ntmps4
  go_wp2_with fail
  refine (guard9 a n c k _ (by omega)).mono ?_
  rintro e w1 ⟨⟨b, rfl⟩, hw1⟩
  subst w1
  cases b
  · go_wp2
    go_ret
    exact ⟨rfl, Below.refl _ _⟩
  go_upto_if 27 with fail
  go_cut [0] (fun t wx => ∃ a' cp', t = .slice a' n cp' ∧ Bools wx a' n V ∧ Below w.heap.size w wx)
  case first =>
    cases a with
    | none =>
      have hn0 : n ≤ 0 := by have := (HN.out rfl).1; omega
      go_wp2
      go_meet
      exact ⟨none, c, rfl, fun i hi => absurd hi (by omega), Below.refl _ _⟩
    | some x =>
      obtain ⟨w2, hcp, hrow, hbel⟩ := fresh_copy (P := Try.prog) w 27 4 3 (.bool false) n c x (fun i => .bool (V i)) Try.underlying27 Try.size4 (HC.out x rfl) (fun _ => rfl)
      have HR : Hid (w2.rowIs w.heap.size 4 n (fun i => .bool (V i))) := hrow
      clear hrow
      go_wp2
      go_meet
      exact ⟨some ⟨w.heap.size, 0, none⟩, n, rfl, fun i hi => ⟨w.heap.size, rfl, HR.out.cell hi⟩, hbel⟩
  case rest =>
  obtain ⟨a', cp', rfl, hS, hB⟩ := hcut
  have HS : Hid (Bools wc a' n V) := hS
  have HB : Hid (Below w.heap.size w wc) := hB
  clear hS hB HC HN hmk q
  go_wp2_with fail
  refine (split10 a' n cp' k V _ (by omega) hk HS.out).mono ?_
  rintro e w3 ⟨g0, g1, g2, BV, rfl, hct⟩
  have HO : Hid (Cut wc w3 n k V BV g0 g1 g2) := hct
  have HE : Hid (Bools w3 a' n V) := fun i hi => by
    obtain ⟨g, _, e, hc⟩ := HS.out.early.below hct.bel i hi
    exact ⟨g, e, hc⟩
  have HB3 : Hid (Below w.heap.size w w3) := HB.out.trans (hct.bel.mono HB.out.size)
  clear hct HS HB
  have hcast : ((n - k : Nat) : Int) = (n : Int) - (k : Int) := by omega
  go_wp2
  go_loopw [10] (fun i wr => ∃ j : Nat, j ≤ n ∧ i = .int .i64 j ∧ ∃ m, wr = w3.drewN m) (fun i _ => n - (intOf i).toNat)
  case atStart => exact ⟨0, Nat.zero_le _, rfl, 0, rfl⟩
  case round =>
    obtain ⟨j, hj, rfl, m, rfl⟩ := hrel
    by_cases hlt : j < n
    · obtain ⟨g, rfl, hc⟩ := HE.out j hlt
      have h0 : w3.cell? ⟨g0, j, none⟩ = some (BV (0 + j)) := HO.out.r0.cell hlt
      have hb := HO.out.rb.cell hlt
      rw [Nat.zero_add] at h0
      have i1 : (j : Int) < (n : Int) := by omega
      have i0 : (0 : Int) ≤ (j : Int) := by omega
      by_cases hjk : j < k
      · have h1 : w3.cell? ⟨g1, j, none⟩ = some (BV (0 + j)) := HO.out.r1.cell hjk
        rw [Nat.zero_add] at h1
        have i2 : (j : Int) < (k : Int) := by omega
        rcases HO.out.fit j hlt with ⟨hv, R, hR⟩ | ⟨hv, hR⟩
        · rw [hv] at hc
          rw [hR] at h0 h1 hb
          have hs := same32 R
          clear HO HE hv hR
          go_wp2
          go_quiet (fail)
          go_wp2
          go_quiet (fail)
          go_wp2
          go_roundw
          case rel => exact ⟨j + 1, by omega, by go_num, by first | exact draws1 _ _ _ | exact draws2 _ _ _ _ | exact ⟨_, rfl⟩⟩
          case measure => simp [intOf]; omega
        · rw [hv] at hc
          rw [hR] at h0 h1 hb
          clear HO HE hv hR
          go_wp2
          go_quiet (fail)
          go_wp2
          go_roundw
          case rel => exact ⟨j + 1, by omega, by go_num, by first | exact draws1 _ _ _ | exact draws2 _ _ _ _ | exact ⟨_, rfl⟩⟩
          case measure => simp [intOf]; omega
      · have h2 : w3.cell? ⟨g2, j - k, none⟩ = some (BV (k + (j - k))) := HO.out.r2.cell (by omega)
        rw [show k + (j - k) = j by omega] at h2
        have i2 : ¬ (j : Int) < (k : Int) := by omega
        have i3 : (j : Int) - (k : Int) < (n : Int) - (k : Int) := by omega
        have i4 : (0 : Int) ≤ (j : Int) - (k : Int) := by omega
        have i5 : ((j : Int) - (k : Int)).toNat = j - k := by omega
        rcases HO.out.fit j hlt with ⟨hv, R, hR⟩ | ⟨hv, hR⟩
        · rw [hv] at hc
          rw [hR] at h0 h2 hb
          have hs := same32 R
          clear HO HE hv hR
          go_wp2
          go_quiet (fail)
          go_wp2
          go_quiet (fail)
          go_wp2
          go_roundw
          case rel => exact ⟨j + 1, by omega, by go_num, by first | exact draws1 _ _ _ | exact draws2 _ _ _ _ | exact ⟨_, rfl⟩⟩
          case measure => simp [intOf]; omega
        · rw [hv] at hc
          rw [hR] at h0 h2 hb
          clear HO HE hv hR
          go_wp2
          go_quiet (fail)
          go_wp2
          go_roundw
          case rel => exact ⟨j + 1, by omega, by go_num, by first | exact draws1 _ _ _ | exact draws2 _ _ _ _ | exact ⟨_, rfl⟩⟩
          case measure => simp [intOf]; omega
    · go_wp2
      go_ret
      exact ⟨rfl, drawn_below HB3.out _⟩
end Go.Proofs.Qxb6609139a
