/-
  SEAT b6608948aD: AppendUint64 and its three callers, onto a slice that the call owns (after the guide's shelf text BEAppendUint64, at this dump).
-/
import Derived.Test.Qxb6608948aDoorClone
import Derived.Lib.EndianBits
import Derived.OwnWalk
namespace Go.Proofs.Qxb6608948aDoor
open Go.RowKit

/-- The eight bytes of v, the greatest first, as cells. -/
def be8 (v : Int) : List Value :=
  [.int .u8 (v / 72057594037927936), .int .u8 (v / 281474976710656 % 256), .int .u8 (v / 1099511627776 % 256), .int .u8 (v / 4294967296 % 256), .int .u8 (v / 16777216 % 256), .int .u8 (v / 65536 % 256), .int .u8 (v / 256 % 256), .int .u8 (v % 256)]

set_option maxHeartbeats 4000000 in
set_option maxRecDepth 100000 in
theorem append16 (B n : Nat) (v : Int) (h0 : 0 ≤ v) (hv : v < 18446744073709551616) (sv : Value) (xs : List Value) (w : World) (hown : w.ownsRow B 5 1 sv n xs) (hBw : B ≤ w.heap.size) (hlim : n + 8 ≤ 140737488355328) :
    Calls Tryd.prog 16 #[.agg #[], sv, .int .u64 v] w fun e w' => ∃ v', e = .returned v' ∧ w'.ownsRow B 5 1 v' (n + 8) (xs ++ be8 v) ∧ Below B w w' := by
  obtain ⟨i0, hi, hz0, hz1, hz2⟩ := info_parts Tryd.info5
  go_enter Tryd.func16, Tryd.ntmps16
  go_wp2_with (at_builtin; refine wpList_append_own _ rfl _ _ 23 rfl B 5 i0 (.int .u8 0) 1 1 Tryd.underlying23 hi hz0 hz1 hz2 rfl (by decide) _ _ _ rfl ((hown.alloc _).alloc _) _ 8 8 [.int .u8 (v / 72057594037927936), .int .u8 (v / 281474976710656 % 256), .int .u8 (v / 1099511627776 % 256), .int .u8 (v / 4294967296 % 256), .int .u8 (v / 16777216 % 256), .int .u8 (v / 65536 % 256), .int .u8 (v / 256 % 256), .int .u8 (v % 256)] rfl rfl ?c1 ?c2 ?c3 ?c4 ?c5 ?_)
  case c1 =>
    intro j u hj
    match j, hj with
    | 0, hj => simp at hj; subst hj; simp [Addr.add]
    | 1, hj => simp at hj; subst hj; simp [Addr.add]
    | 2, hj => simp at hj; subst hj; simp [Addr.add]
    | 3, hj => simp at hj; subst hj; simp [Addr.add]
    | 4, hj => simp at hj; subst hj; simp [Addr.add]
    | 5, hj => simp at hj; subst hj; simp [Addr.add]
    | 6, hj => simp at hj; subst hj; simp [Addr.add]
    | 7, hj => simp at hj; subst hj; simp [Addr.add]
  case c2 => intro u hu; simp at hu; rcases hu with rfl | rfl | rfl | rfl | rfl | rfl | rfl | rfl <;> rfl
  case c3 => unfold maxLen; omega
  case c4 => omega
  case c5 => simp; omega
  intro v' w2 hown' hgrow _
  go_wp2
  go_ret
  refine ⟨v', rfl, hown', ?_⟩
  exact ((((Below.refl B w).alloc hBw _).alloc (by simp; omega) _).grown hgrow (by simp; omega) (fun k hk => (hown.lt k hk).1))

set_option maxHeartbeats 400000 in
theorem append15 (B n : Nat) (v : Int) (h0 : 0 ≤ v) (hv : v < 18446744073709551616) (sv : Value) (xs : List Value) (w : World) (hown : w.ownsRow B 5 1 sv n xs) (hBw : B ≤ w.heap.size) (hlim : n + 8 ≤ 140737488355328) :
    Calls Tryd.prog 15 #[sv, .int .u64 v] w fun e w' => ∃ v', e = .returned v' ∧ w'.ownsRow B 5 1 v' (n + 8) (xs ++ be8 v) ∧ Below B w w' := by
  go_enter Tryd.func15, Tryd.ntmps15
  go_wp2_with fail
  refine (append16 B n v h0 hv sv xs _ hown hBw hlim).mono ?_
  rintro e w1 ⟨v', rfl, hown1, hb1⟩
  go_wp2
  go_ret
  exact ⟨v', rfl, hown1, hb1⟩

set_option maxHeartbeats 400000 in
theorem append12 (B n : Nat) (v : Int) (h0 : 0 ≤ v) (hv : v < 18446744073709551616) (sv : Value) (xs : List Value) (w : World) (hown : w.ownsRow B 5 1 sv n xs) (hBw : B ≤ w.heap.size) (hlim : n + 8 ≤ 140737488355328) :
    Calls Tryd.prog 12 #[.agg #[.int .u64 v], sv] w fun e w' => ∃ v', e = .returned v' ∧ w'.ownsRow B 5 1 v' (n + 8) (xs ++ be8 v) ∧ Below B w w' := by
  go_enter Tryd.func12, Tryd.ntmps12
  go_wp2_with fail
  refine (append15 B n v h0 hv sv xs _ (hown.alloc _) (by simp; omega) hlim).mono ?_
  rintro e w1 ⟨v', rfl, hown1, hb1⟩
  go_wp2
  go_ret
  exact ⟨v', rfl, hown1, ((Below.refl B w).alloc hBw _).trans hb1⟩

set_option maxHeartbeats 400000 in
/-- ZZFetchStateAppendFields: the slice, and behind it the eight bytes of v. -/
theorem append6 (B n : Nat) (v : Int) (h0 : 0 ≤ v) (hv : v < 18446744073709551616) (sv : Value) (xs : List Value) (w : World) (hown : w.ownsRow B 5 1 sv n xs) (hBw : B ≤ w.heap.size) (hlim : n + 8 ≤ 140737488355328) :
    Calls Tryd.prog 6 #[.agg #[.int .u64 v], sv] w fun e w' => ∃ v', e = .returned v' ∧ w'.ownsRow B 5 1 v' (n + 8) (xs ++ be8 v) ∧ Below B w w' := by
  go_enter Tryd.func6, Tryd.ntmps6
  go_wp2_with fail
  refine (append12 B n v h0 hv sv xs _ (hown.alloc _) (by simp; omega) hlim).mono ?_
  rintro e w1 ⟨v', rfl, hown1, hb1⟩
  go_wp2
  go_ret
  exact ⟨v', rfl, hown1, ((Below.refl B w).alloc hBw _).trans hb1⟩
end Go.Proofs.Qxb6608948aDoor
