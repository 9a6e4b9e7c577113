/-
  SEAT b6608988a: the builders of nodes, and Pos at a literal.
-/
import Derived.Test.Qxb6608988aProg
import Derived.WalkKit
import Derived.WalkSpells
import Derived.Deep.OwnRows
namespace Go.Proofs.Qxb6608988a
open Go.RowKit

/-- A place as a value. -/
abbrev posV (l c : Int) : Value := .agg #[.int .i64 l, .int .i64 c]
abbrev ptrV (b : Nat) : Value := .pointer (some ⟨b, 0, none⟩)

set_option maxHeartbeats 400000 in
theorem pos10 (l c : Int) (w : World) :
    Calls Try.prog 10 #[.int .i64 l, .int .i64 c] w fun e w' => e = .returned (posV l c) ∧ w' = w.alloc (.cells #[.int .i64 l, .int .i64 c] 30) := by
  go_enter Try.func10, Try.ntmps10
  go_wp2
  exact bodyPost_ret (v := posV l c) (by simp [results, Try.results10, go_sem]) rfl ⟨rfl, rfl⟩

set_option maxHeartbeats 400000 in
theorem litPos16 (b : Nat) (l c : Int) (w : World) (h0 : w.cell? ⟨b, 0, none⟩ = some (.int .i64 l)) (h1 : w.cell? ⟨b, 1, none⟩ = some (.int .i64 c)) :
    Calls Try.prog 16 #[ptrV b] w fun e w' => e = .returned (posV l c) ∧ w' = w.alloc (.cells #[.int .i64 l, .int .i64 c] 30) := by
  have hb : b < w.heap.size := World.block_lt_of_cell? w _ h0
  go_enter Try.func16, Try.ntmps16
  go_wp2
  exact bodyPost_ret (v := posV l c) (by simp [results, Try.results16, go_sem]) rfl ⟨rfl, rfl⟩

set_option maxHeartbeats 400000 in
theorem bin11 (x : Nat) (l c : Int) (op : ByteArray) (y : Nat) (w : World) :
    Calls Try.prog 11 #[ptrV x, posV l c, .string op, ptrV y] w fun e w' => e = .returned (ptrV (w.heap.size + 1)) ∧
      w' = (w.alloc (.cells #[.int .i64 l, .int .i64 c] 30)).alloc (.cells #[.iface 25 (ptrV x), .int .i64 l, .int .i64 c, .string op, .iface 25 (ptrV y)] 64) := by
  go_enter Try.func11, Try.ntmps11
  go_wp2
  go_ret
  exact ⟨rfl, rfl⟩

set_option maxHeartbeats 400000 in
theorem bin12 (x : Nat) (l c : Int) (op : ByteArray) (y : Nat) (w : World) :
    Calls Try.prog 12 #[ptrV x, posV l c, .string op, ptrV y] w fun e w' => e = .returned (ptrV (w.heap.size + 1)) ∧
      w' = (w.alloc (.cells #[.int .i64 l, .int .i64 c] 30)).alloc (.cells #[.iface 25 (ptrV x), .int .i64 l, .int .i64 c, .string op, .iface 26 (ptrV y)] 64) := by
  go_enter Try.func12, Try.ntmps12
  go_wp2
  go_ret
  exact ⟨rfl, rfl⟩

set_option maxHeartbeats 400000 in
theorem bin13 (x : Nat) (l c : Int) (op : ByteArray) (y : Nat) (w : World) :
    Calls Try.prog 13 #[ptrV x, posV l c, .string op, ptrV y] w fun e w' => e = .returned (ptrV (w.heap.size + 1)) ∧
      w' = (w.alloc (.cells #[.int .i64 l, .int .i64 c] 30)).alloc (.cells #[.iface 26 (ptrV x), .int .i64 l, .int .i64 c, .string op, .iface 25 (ptrV y)] 64) := by
  go_enter Try.func13, Try.ntmps13
  go_wp2
  go_ret
  exact ⟨rfl, rfl⟩

set_option maxHeartbeats 400000 in
theorem bin14 (x : Nat) (l c : Int) (op : ByteArray) (y : Nat) (w : World) :
    Calls Try.prog 14 #[ptrV x, posV l c, .string op, ptrV y] w fun e w' => e = .returned (ptrV (w.heap.size + 1)) ∧
      w' = (w.alloc (.cells #[.int .i64 l, .int .i64 c] 30)).alloc (.cells #[.iface 26 (ptrV x), .int .i64 l, .int .i64 c, .string op, .iface 26 (ptrV y)] 64) := by
  go_enter Try.func14, Try.ntmps14
  go_wp2
  go_ret
  exact ⟨rfl, rfl⟩

set_option maxHeartbeats 400000 in
theorem bin20 (x : Nat) (l c : Int) (op : ByteArray) (y : Nat) (w : World) :
    Calls Try.prog 20 #[ptrV x, posV l c, .string op, ptrV y] w fun e w' => e = .returned (ptrV (w.heap.size + 1)) ∧
      w' = (w.alloc (.cells #[.int .i64 l, .int .i64 c] 30)).alloc (.cells #[.iface 38 (ptrV x), .int .i64 l, .int .i64 c, .string op, .iface 25 (ptrV y)] 64) := by
  go_enter Try.func20, Try.ntmps20
  go_wp2
  go_ret
  exact ⟨rfl, rfl⟩

set_option maxHeartbeats 400000 in
theorem look18 (x : Nat) (l c : Int) (kind : ByteArray) (l2 c2 : Int) (list : ByteArray) (w : World) :
    Calls Try.prog 18 #[ptrV x, posV l c, .string kind, posV l2 c2, .string list] w fun e w' => e = .returned (ptrV (w.heap.size + 2)) ∧
      w' = ((w.alloc (.cells #[.int .i64 l, .int .i64 c] 30)).alloc (.cells #[.int .i64 l2, .int .i64 c2] 30)).alloc (.cells #[.iface 25 (ptrV x), .int .i64 l, .int .i64 c, .string kind, .int .i64 l2, .int .i64 c2, .string list] 68) := by
  go_enter Try.func18, Try.ntmps18
  go_wp2
  go_ret
  exact ⟨rfl, rfl⟩

set_option maxHeartbeats 400000 in
theorem look19 (x : Nat) (l c : Int) (kind : ByteArray) (l2 c2 : Int) (list : ByteArray) (w : World) :
    Calls Try.prog 19 #[ptrV x, posV l c, .string kind, posV l2 c2, .string list] w fun e w' => e = .returned (ptrV (w.heap.size + 2)) ∧
      w' = ((w.alloc (.cells #[.int .i64 l, .int .i64 c] 30)).alloc (.cells #[.int .i64 l2, .int .i64 c2] 30)).alloc (.cells #[.iface 26 (ptrV x), .int .i64 l, .int .i64 c, .string kind, .int .i64 l2, .int .i64 c2, .string list] 68) := by
  go_enter Try.func19, Try.ntmps19
  go_wp2
  go_ret
  exact ⟨rfl, rfl⟩
end Go.Proofs.Qxb6608988a
