/-
  THE SHARED WALKS OF SEAT b6608570a: the two size guards (they answer some bool, the world stands), isOf and its shim.
-/
import Derived.Test.Qxb6608570aProg
import Derived.WalkKit
import Derived.WalkSpells
import Derived.RowKit3
namespace Go.Proofs.Qxb6608570a
open Go.RowKit

set_option maxHeartbeats 400000 in
theorem bytes5 (a0 a1 : ByteArray) (a2 : Bool) (a3 a4 a5 : ByteArray) (w : World) :
    Calls Try.prog 5 #[.string a0, .string a1, .bool a2, .string a3, .string a4, .string a5] w fun e w' => (∃ b, e = .returned (.bool b)) ∧ w' = w := by
  go_enter Try.func5, Try.ntmps5
  go_wp2
  all_goals (go_ret; exact ⟨⟨_, rfl⟩, rfl⟩)

set_option maxHeartbeats 400000 in
theorem bytes7 (a0 a1 a2 : ByteArray) (a3 : Bool) (a4 : ByteArray) (w : World) :
    Calls Try.prog 7 #[.string a0, .string a1, .string a2, .bool a3, .string a4] w fun e w' => (∃ b, e = .returned (.bool b)) ∧ w' = w := by
  go_enter Try.func7, Try.ntmps7
  go_wp2
  all_goals (go_ret; exact ⟨⟨_, rfl⟩, rfl⟩)

/-- What isOf answers: the own item is blank, or the two are the same. -/
def isOfB (own item : ByteArray) : Bool := own.toList.isEmpty || (item.toList == own.toList)

theorem ret_bool {a b : Bool} (h : a = b) : Ending.returned (.bool a) = .returned (.bool b) := by rw [h]

set_option maxHeartbeats 400000 in
theorem isOf8 (it vat : ByteArray) (fr : Bool) (db item : ByteArray) (w : World) :
    Calls Try.prog 8 #[.agg #[.string it, .int .i64 0, .pointer none, .int .i64 0, .string vat, .bool fr, .slice none 0 0, .string db], .string item] w
      fun e w' => e = .returned (.bool (isOfB it item)) ∧ ∃ c : Array Value, w' = w.alloc (.cells c 28) := by
  go_enter Try.func8, Try.ntmps8
  go_wp2
  · go_ret
    have h : it.toList = [] := by assumption
    exact ⟨ret_bool (by simp [isOfB, h]), _, rfl⟩
  · go_ret
    exact ⟨ret_bool (by rfl), _, rfl⟩

set_option maxHeartbeats 400000 in
theorem isOf6 (it vat : ByteArray) (fr : Bool) (db item : ByteArray) (w : World) :
    Calls Try.prog 6 #[.agg #[.string it, .int .i64 0, .pointer none, .int .i64 0, .string vat, .bool fr, .slice none 0 0, .string db], .string item] w
      fun e w' => e = .returned (.bool (isOfB it item)) ∧ ∃ c d : Array Value, w' = (w.alloc (.cells c 28)).alloc (.cells d 28) := by
  go_enter Try.func6, Try.ntmps6
  go_wp2_with (go_at_call 8; refine (isOf8 _ _ _ _ _ _).mono ?_; rintro e w' ⟨rfl, c, rfl⟩)
  go_ret
  exact ⟨rfl, _, _, rfl⟩

/-! ### The plain laws -/
theorem isOfB_self (a : ByteArray) : isOfB a a = true := by simp [isOfB]
theorem isOfB_blank (a b : ByteArray) (h : a.toList = []) : isOfB a b = true := by simp [isOfB, h]
theorem isOfB_no (it a : ByteArray) (h : ¬ it.toList = []) : isOfB it a = (a.toList == it.toList) := by simp [isOfB, h]
/-- Two different items are not both taken where the own one is not blank. -/
theorem isOfB_two (it a b : ByteArray) (h : ¬ it.toList = []) (hab : ¬ a.toList = b.toList) (ha : isOfB it a = true) : isOfB it b = false := by
  rw [isOfB_no it a h] at ha
  rw [isOfB_no it b h]
  have e : a.toList = it.toList := by simpa using ha
  rw [e] at hab
  simpa using fun h => hab h.symm
theorem isOfB_iff (a b : ByteArray) : isOfB a b = true ↔ (a.toList = [] ∨ b.toList = a.toList) := by simp [isOfB]
/-- Both take each other's item just where the two are one. -/
theorem isOfB_mutual (a b : ByteArray) : (isOfB a b && isOfB b a) = (a.toList == b.toList) := by
  rw [Bool.eq_iff_iff, Bool.and_eq_true, isOfB_iff, isOfB_iff, beq_iff_eq]
  constructor
  · rintro ⟨h1 | h1, h2 | h2⟩
    · rw [h1, h2]
    · exact h2
    · exact h1.symm
    · exact h2
  · intro h
    exact ⟨.inr h.symm, .inr h⟩
end Go.Proofs.Qxb6608570a
