/-
  SEAT b6608948aD: wb1Clone, wb1Equal, the size guard.
-/
import Derived.Test.Qxb6608948aDoorProg
import Derived.WalkKit
import Derived.WalkSpells
import Derived.Deep.OwnRows
import Derived.BigQuiet
import Derived.Deep.QuietTactic
namespace Go.Proofs.Qxb6608948aDoor
open Go.RowKit

theorem Tryd.info5 : (Tryd.prog.info? 5).map (fun i => (i.zero, i.size, i.bytes)) = some (some (.int .u8 0), 1, 1) := by kernel_rfl

theorem q23 (w : World) (a : Option Addr) (n c n' c' : Nat) : (binOp .eql 23 (.slice a n c) (.slice none n' c')).run Tryd.prog w = .ok (.bool a.isNone) w :=
  Lib.run_eql_slice_nil w _ _ a n c n' c' Tryd.underlying23

set_option maxHeartbeats 400000 in
theorem bytes4 (v : Int) (a : Option Addr) (n c : Nat) (w : World) :
    Calls Tryd.prog 4 #[.int .u64 v, .slice a n c] w fun e w' => (∃ b, e = .returned (.bool b)) ∧ w' = w := by
  go_enter Tryd.func4, Tryd.ntmps4
  go_wp2
  all_goals (go_ret; exact ⟨⟨_, rfl⟩, rfl⟩)

set_option maxHeartbeats 400000 in
theorem clone_nil (w : World) : Calls Tryd.prog 5 #[.slice none 0 0] w fun e w' => e = .returned (.slice none 0 0) ∧ w' = w := by
  have q := q23
  go_enter Tryd.func5, Tryd.ntmps5
  go_wp2
  go_ret
  exact ⟨rfl, rfl⟩

/-- What the round does to the new row. -/
theorem clone_step {wr : World} {g n k : Nat} {Z : Nat → Int} (h : wr.rowIs g 5 n (fun j => .int .u8 (if j < k then Z j else 0))) :
    (wr.setCell ⟨g, k, none⟩ (.int .u8 (Z k))).rowIs g 5 n (fun j => .int .u8 (if j < k + 1 then Z j else 0)) := by
  refine (h.set k (.int .u8 (Z k))).congr fun j hj => ?_
  by_cases e : j = k
  · subst e; simp
  · simp only [e, if_false]
    by_cases hk : j < k
    · rw [if_pos hk, if_pos (by omega)]
    · rw [if_neg hk, if_neg (by omega)]

set_option maxHeartbeats 400000 in
theorem clone_any (a : Addr) (n c : Nat) (Z : Nat → Int) (w : World) (hn : n ≤ 1048576) (hcell : ∀ i, i < n → w.cell? (a.add i) = some (.int .u8 (Z i))) :
    Calls Tryd.prog 5 #[.slice (some a) n c] w fun e w' => e = .returned (.slice (some ⟨w.heap.size, 0, none⟩) n n) ∧ w'.rowIs w.heap.size 5 n (fun i => .int .u8 (Z i)) ∧ w'.heap.size = w.heap.size + 1 ∧ Below w.heap.size w w' := by
  have q := q23
  have hmk := run_make_row' (P := Tryd.prog) 23 5 (.int .u8 0) 1 Tryd.underlying23 Tryd.info5 rfl .i64 .i64 n (by omega) (by omega)
  go_enter Tryd.func5, Tryd.ntmps5
  go_wp2
  clear hmk q
  go_loopw [4] (fun i wr => ∃ k : Nat, k ≤ n ∧ i = .int .i64 k ∧ wr.rowIs w.heap.size 5 n (fun j => .int .u8 (if j < k then Z j else 0)) ∧ wr.heap.size = w.heap.size + 1 ∧ Below w.heap.size w wr) (fun i _ => n - (intOf i).toNat)
  case atStart => exact ⟨0, Nat.zero_le _, rfl, (World.rowIs_made _ _ _ _).congr (fun _ _ => by simp), by simp, (Below.refl _ _).alloc (Nat.le_refl _) _⟩
  case round =>
    obtain ⟨k, hk, rfl, hrow, hsz, hnx⟩ := hrel
    by_cases hlt : k < n
    · have hblt : (a.add k).block < w.heap.size := World.block_lt_of_cell? w _ (hcell k hlt)
      have hc := (hnx.cell (p := a.add k) hblt).trans (hcell k hlt)
      have hd := hrow.cell hlt
      have hf := hrow.frozen k
      have R := clone_step hrow
      have hB := hnx.setCell (p := ⟨w.heap.size, k, none⟩) (Nat.le_refl _) (.int .u8 (Z k))
      have HS : Hid (wr.heap.size = w.heap.size + 1) := hsz
      clear hrow hcell hnx hsz hblt
      go_wp2
      go_roundw
      case rel => exact ⟨k + 1, by omega, by go_num, R, by simpa using HS.out, hB⟩
      case measure => simp [intOf]; omega
    · go_wp2
      go_ret
      exact ⟨rfl, hrow.congr (fun j hj => by simp; omega), hsz, hnx⟩

set_option maxHeartbeats 400000 in
/-- wb1Equal at two slices that hold the same: true. -/
theorem equal_same (a b : Option Addr) (n c d : Nat) (Z : Nat → Int) (w : World) (hn : n ≤ 1048576)
    (ha : ∀ i, i < n → ∃ g, a = some ⟨g, 0, none⟩ ∧ w.cell? ⟨g, i, none⟩ = some (.int .u8 (Z i))) (hb : ∀ i, i < n → ∃ g, b = some ⟨g, 0, none⟩ ∧ w.cell? ⟨g, i, none⟩ = some (.int .u8 (Z i))) :
    Calls Tryd.prog 7 #[.slice a n c, .slice b n d] w fun e w' => e = .returned (.bool true) ∧ ∃ m, w' = w.drewN m := by
  go_enter Tryd.func7, Tryd.ntmps7
  go_wp2
  go_loopw [5] (fun i wr => ∃ k : Nat, k ≤ n ∧ i = .int .i64 k ∧ ∃ m, wr = w.drewN m) (fun i _ => n - (intOf i).toNat)
  case atStart => exact ⟨0, Nat.zero_le _, rfl, 0, rfl⟩
  case round =>
    obtain ⟨k, hk, rfl, m, rfl⟩ := hrel
    by_cases hlt : k < n
    · obtain ⟨ga, rfl, hca⟩ := ha k hlt
      obtain ⟨gb, rfl, hcb⟩ := hb k hlt
      have hlt' : (k : Int) < (n : Int) := by omega
      clear ha hb
      go_wp2
      go_quiet (fail)
      go_wp2
      go_roundw
      case rel => exact ⟨k + 1, by omega, by go_num, _, rfl⟩
      case measure => simp [intOf]; omega
    · go_wp2
      go_ret
      exact ⟨rfl, m, rfl⟩
end Go.Proofs.Qxb6608948aDoor
