/-
  SEAT b6609139a: HasPrefix: the library's and the law's own.
-/
import Derived.Test.Qxb6609139aProg
import Derived.WalkKit
import Derived.WalkSpells
import Derived.Lib.Strings
import Derived.BigQuiet
import Derived.Deep.QuietTactic
namespace Go.Proofs.Qxb6609139a
open Go.RowKit

/-- s begins with p. -/
def pre (s p : ByteArray) : Bool := decide (p.size ≤ s.size) && ((s.extract 0 p.size).toList == p.toList)

theorem pre_iff (s p : ByteArray) : pre s p = true ↔ p.size ≤ s.size ∧ ∀ j (_ : j < p.size) (_ : j < s.size), s[j] = p[j] := by
  unfold pre
  rw [Bool.and_eq_true, decide_eq_true_eq, beq_iff_eq, ByteArray.toList_eq, ByteArray.toList_eq, Lib.extract_data]
  obtain ⟨⟨ls⟩⟩ := s
  obtain ⟨⟨lp⟩⟩ := p
  simp only [List.drop_zero, Nat.sub_zero]
  show lp.length ≤ ls.length ∧ ls.take lp.length = lp ↔ lp.length ≤ ls.length ∧ ∀ j (hj : j < lp.length) (hjs : j < ls.length), ls[j] = lp[j]
  constructor
  · rintro ⟨h, he⟩
    refine ⟨h, fun j hj hjs => ?_⟩
    have := congrArg (fun l => l[j]?) he
    simp only [List.getElem?_take_of_lt hj, List.getElem?_eq_getElem hj, List.getElem?_eq_getElem hjs, Option.some.injEq] at this
    exact this
  · rintro ⟨h, he⟩
    refine ⟨h, List.ext_getElem (by simp; omega) fun j h1 h2 => ?_⟩
    rw [List.getElem_take]
    exact he j h2 (by omega)

theorem ret_bool {a b : Bool} (h : a = b) : Ending.returned (.bool a) = .returned (.bool b) := by rw [h]

set_option maxHeartbeats 400000 in
theorem hp19 (s p : ByteArray) (w : World) : Calls Try.prog 19 #[.string s, .string p] w fun e w' => e = .returned (.bool (pre s p)) ∧ w' = w := by
  by_cases h : (p.size : Int) ≤ (s.size : Int)
  · have h' : p.size ≤ s.size := by omega
    go_enter Try.func19, Try.ntmps19
    go_wp2
    go_ret
    exact ⟨ret_bool (by simp [pre, h']), rfl⟩
  · have h' : ¬ p.size ≤ s.size := by omega
    go_enter Try.func19, Try.ntmps19
    go_wp2
    go_ret
    exact ⟨ret_bool (by simp [pre, h']), rfl⟩

set_option maxHeartbeats 400000 in
theorem hp16 (s p : ByteArray) (w : World) : Calls Try.prog 16 #[.string s, .string p] w fun e w' => e = .returned (.bool (pre s p)) ∧ w' = w := by
  go_enter Try.func16, Try.ntmps16
  go_wp2_with (go_at_call 19; refine (hp19 s p _).mono ?_; rintro e w' ⟨rfl, rfl⟩)
  go_ret
  exact ⟨rfl, rfl⟩

set_option maxHeartbeats 400000 in
theorem zhp8 (s p : ByteArray) (hs : s.size ≤ maxLen) (w : World) : Calls Try.prog 8 #[.string s, .string p] w fun e w' => e = .returned (.bool (pre s p)) ∧ ∃ m, w' = w.drewN m := by
  unfold maxLen at hs
  by_cases h : (s.size : Int) < (p.size : Int)
  · have h' : ¬ p.size ≤ s.size := by omega
    go_enter Try.func8, Try.ntmps8
    go_wp2
    go_ret
    exact ⟨ret_bool (by simp [pre, h']), 0, rfl⟩
  · have h' : p.size ≤ s.size := by omega
    go_enter Try.func8, Try.ntmps8
    go_wp2
    go_loopw [5] (fun i wr => ∃ k : Nat, k ≤ p.size ∧ i = .int .i64 k ∧ (∃ m, wr = w.drewN m) ∧ ∀ j (hj : j < p.size) (hjs : j < s.size), j < k → s[j] = p[j]) (fun i _ => p.size - (intOf i).toNat)
    case atStart => exact ⟨0, Nat.zero_le _, rfl, ⟨0, rfl⟩, fun j _ _ h => absurd h (Nat.not_lt_zero _)⟩
    case round =>
      obtain ⟨k, hk, rfl, ⟨m, rfl⟩, heq⟩ := hrel
      have HE : Hid (∀ j (hj : j < p.size) (hjs : j < s.size), j < k → s[j] = p[j]) := heq
      clear heq
      by_cases hlt : k < p.size
      · have hks : k < s.size := by omega
        have i1 : (k : Int) < (p.size : Int) := by omega
        have i2 : (k : Int) < (s.size : Int) := by omega
        go_wp2
        go_quiet (fail)
        go_wp2
        · have hne : ((s[k].toNat : Int) != (p[k].toNat : Int)) = true := by assumption
          go_ret
          refine ⟨ret_bool ?_, m + nq, by simp⟩
          cases hpre : pre s p
          · rfl
          · have := ((pre_iff s p).1 hpre).2 k hlt hks
            rw [this] at hne
            simp at hne
        · have heq : ((s[k].toNat : Int) != (p[k].toNat : Int)) = false := by assumption
          go_roundw
          case rel =>
            refine ⟨k + 1, by omega, by go_num, ⟨m + nq, by simp⟩, fun j hj hjs hlt => ?_⟩
            by_cases e : j = k
            · subst e
              have : (s[j].toNat : Int) = (p[j].toNat : Int) := by simpa using heq
              exact UInt8.toNat_inj.1 (by omega)
            · exact HE.out j hj hjs (by omega)
          case measure => simp [intOf]; omega
      · go_wp2
        go_ret
        refine ⟨ret_bool ?_, m, rfl⟩
        exact ((pre_iff s p).2 ⟨h', fun j hj hjs => HE.out j hj hjs (by omega)⟩).symm
end Go.Proofs.Qxb6609139a
