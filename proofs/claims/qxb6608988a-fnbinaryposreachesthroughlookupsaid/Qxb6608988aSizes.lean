/-
  SEAT b6608988a: the size guards: whatever they answer, the world stands.
-/
import Derived.Test.Qxb6608988aProg
import Derived.WalkKit
import Derived.WalkSpells
namespace Go.Proofs.Qxb6608988a
open Go.RowKit

/-- Some bool comes back. (Under a name: written out, the walk's simp takes it apart.) -/
def SomeBool (e : Ending) : Prop := ∃ b, e = .returned (.bool b)

/-- WHAT IS KNOWN OF A SLICE OF LEVELS THAT CAME IN: each element's six cells. -/
def Lev (w : World) (a : Option Addr) (n : Nat) : Prop :=
  ∀ i, i < n → ∃ (b off : Nat) (l c : Int) (op : ByteArray) (yl yc yv : Int), a = some ⟨b, off, none⟩ ∧ w.cell? ⟨b, off + i * 6, none⟩ = some (.int .i64 l) ∧ w.cell? ⟨b, off + i * 6 + 1, none⟩ = some (.int .i64 c) ∧
    w.cell? ⟨b, off + i * 6 + 2, none⟩ = some (.string op) ∧ w.cell? ⟨b, off + i * 6 + 3, none⟩ = some (.int .i64 yl) ∧ w.cell? ⟨b, off + i * 6 + 4, none⟩ = some (.int .i64 yc) ∧ w.cell? ⟨b, off + i * 6 + 5, none⟩ = some (.int .i64 yv)

theorem Lev.below {w w' : World} {a : Option Addr} {n : Nat} (h : Lev w a n) (hb : Below w.heap.size w w') : Lev w' a n := fun i hi => by
  obtain ⟨b, off, l, c, op, yl, yc, yv, e, c0, c1, c2, c3, c4, c5⟩ := h i hi
  have hlt : b < w.heap.size := World.block_lt_of_cell? w _ c0
  exact ⟨b, off, l, c, op, yl, yc, yv, e, (hb.cell (p := ⟨b, _, none⟩) hlt).trans c0, (hb.cell (p := ⟨b, _, none⟩) hlt).trans c1, (hb.cell (p := ⟨b, _, none⟩) hlt).trans c2, (hb.cell (p := ⟨b, _, none⟩) hlt).trans c3, (hb.cell (p := ⟨b, _, none⟩) hlt).trans c4, (hb.cell (p := ⟨b, _, none⟩) hlt).trans c5⟩

set_option maxHeartbeats 400000 in
theorem size8 (t0 : Int) (a : Option Addr) (n c : Nat) (w : World) (hn : n ≤ 1048576) (h : Lev w a n) :
    Calls Try.prog 8 #[.int .i64 t0, .slice a n c] w fun e w' => (∃ t, e = .returned (.int .i64 t)) ∧ w' = w := by
  have HL : Hid (Lev w a n) := h
  clear h
  go_enter Try.func8, Try.ntmps8
  go_wp2
  go_loop [0, 5] (fun t i => (∃ x, t = .int .i64 x) ∧ ∃ k : Nat, k ≤ n ∧ i = .int .i64 k) (fun _ i => n - (intOf i).toNat)
  case atStart => exact ⟨⟨_, rfl⟩, 0, Nat.zero_le _, rfl⟩
  case round =>
    obtain ⟨⟨x, rfl⟩, k, hk, rfl⟩ := hrel
    by_cases hlt : k < n
    · obtain ⟨b, off, l, c, op, yl, yc, yv, rfl, c0, c1, c2, c3, c4, c5⟩ := HL.out k hlt
      clear c0 c1 c3 c4 c5 HL
      go_wp2
      · go_ret
        exact ⟨⟨_, rfl⟩, rfl⟩
      · go_round
        case rel => exact ⟨⟨_, rfl⟩, k + 1, by omega, by go_num⟩
        case measure => simp [intOf]; omega
    · go_wp2
      go_ret
      exact ⟨⟨_, rfl⟩, rfl⟩

set_option maxHeartbeats 1000000 in
theorem guard7 (i0 i1 i2 : Int) (s4 : ByteArray) (i5 i6 i7 i8 i9 : Int) (n1 cp1 : Nat) (a1 : Option Addr) (n2 cp2 : Nat) (a2 : Option Addr) (w : World) (h1 : Lev w a1 n1) (h2 : Lev w a2 n2) :
    Calls Try.prog 7 #[.int .i64 i0, .int .i64 i1, .int .i64 i2, .slice a1 n1 cp1, .string s4, .int .i64 i5, .int .i64 i6, .int .i64 i7, .int .i64 i8, .int .i64 i9, .slice a2 n2 cp2] w fun e w' => SomeBool e ∧ w' = w := by
  have H1 : Hid (Lev w a1 n1) := h1
  have H2 : Hid (Lev w a2 n2) := h2
  clear h1 h2
  go_enter Try.func7, Try.ntmps7
  go_wp2
  · go_ret
    exact ⟨⟨_, rfl⟩, rfl⟩
  go_loop [23, 24] (fun t i => (∃ x, t = .int .i64 x) ∧ ∃ k : Nat, k ≤ n1 ∧ i = .int .i64 k) (fun _ i => n1 - (intOf i).toNat)
  case atStart => exact ⟨⟨_, rfl⟩, 0, Nat.zero_le _, rfl⟩
  case round =>
    obtain ⟨⟨x1, rfl⟩, k, hk, rfl⟩ := hrel
    by_cases hlt : k < n1
    · obtain ⟨b, off, l, c, op, yl, yc, yv, rfl, c0, c1, c2, c3, c4, c5⟩ := H1.out k hlt
      clear c0 c1 c3 c4 c5 H1 H2
      go_wp2
      · go_ret
        exact ⟨⟨_, rfl⟩, rfl⟩
      · go_ret
        exact ⟨⟨_, rfl⟩, rfl⟩
      · go_round
        case rel => exact ⟨⟨_, rfl⟩, k + 1, by omega, by go_num⟩
        case measure => simp [intOf]; omega
    · clear H1
      go_wp2
      all_goals try (go_ret; exact ⟨⟨_, rfl⟩, rfl⟩)
      go_loop [23, 25] (fun t i => (∃ x, t = .int .i64 x) ∧ ∃ k : Nat, k ≤ n2 ∧ i = .int .i64 k) (fun _ i => n2 - (intOf i).toNat)
      case atStart => exact ⟨⟨_, rfl⟩, 0, Nat.zero_le _, rfl⟩
      case round =>
        obtain ⟨⟨x2, rfl⟩, j, hj, rfl⟩ := hrel
        by_cases hlt2 : j < n2
        · obtain ⟨b, off, l, c, op, yl, yc, yv, rfl, c0, c1, c2, c3, c4, c5⟩ := H2.out j hlt2
          clear c0 c1 c3 c4 c5 H2
          go_wp2
          · go_ret
            exact ⟨⟨_, rfl⟩, rfl⟩
          · go_ret
            exact ⟨⟨_, rfl⟩, rfl⟩
          · go_round
            case rel => exact ⟨⟨_, rfl⟩, j + 1, by omega, by go_num⟩
            case measure => simp [intOf]; omega
        · go_wp2
          go_ret
          exact ⟨⟨_, rfl⟩, rfl⟩

set_option maxHeartbeats 1000000 in
theorem guard17 (i0 i1 i2 : Int) (s4 s5 : ByteArray) (i6 i7 i8 i9 : Int) (n1 cp1 : Nat) (a1 : Option Addr) (n2 cp2 : Nat) (a2 : Option Addr) (w : World) (h1 : Lev w a1 n1) (h2 : Lev w a2 n2) :
    Calls Try.prog 17 #[.int .i64 i0, .int .i64 i1, .int .i64 i2, .slice a1 n1 cp1, .string s4, .string s5, .int .i64 i6, .int .i64 i7, .int .i64 i8, .int .i64 i9, .slice a2 n2 cp2] w fun e w' => SomeBool e ∧ w' = w := by
  have H1 : Hid (Lev w a1 n1) := h1
  have H2 : Hid (Lev w a2 n2) := h2
  clear h1 h2
  go_enter Try.func17, Try.ntmps17
  go_wp2
  · go_ret
    exact ⟨⟨_, rfl⟩, rfl⟩
  go_loop [23, 24] (fun t i => (∃ x, t = .int .i64 x) ∧ ∃ k : Nat, k ≤ n1 ∧ i = .int .i64 k) (fun _ i => n1 - (intOf i).toNat)
  case atStart => exact ⟨⟨_, rfl⟩, 0, Nat.zero_le _, rfl⟩
  case round =>
    obtain ⟨⟨x1, rfl⟩, k, hk, rfl⟩ := hrel
    by_cases hlt : k < n1
    · obtain ⟨b, off, l, c, op, yl, yc, yv, rfl, c0, c1, c2, c3, c4, c5⟩ := H1.out k hlt
      clear c0 c1 c3 c4 c5 H1 H2
      go_wp2
      · go_ret
        exact ⟨⟨_, rfl⟩, rfl⟩
      · go_ret
        exact ⟨⟨_, rfl⟩, rfl⟩
      · go_round
        case rel => exact ⟨⟨_, rfl⟩, k + 1, by omega, by go_num⟩
        case measure => simp [intOf]; omega
    · clear H1
      go_wp2
      all_goals try (go_ret; exact ⟨⟨_, rfl⟩, rfl⟩)
      go_loop [23, 25] (fun t i => (∃ x, t = .int .i64 x) ∧ ∃ k : Nat, k ≤ n2 ∧ i = .int .i64 k) (fun _ i => n2 - (intOf i).toNat)
      case atStart => exact ⟨⟨_, rfl⟩, 0, Nat.zero_le _, rfl⟩
      case round =>
        obtain ⟨⟨x2, rfl⟩, j, hj, rfl⟩ := hrel
        by_cases hlt2 : j < n2
        · obtain ⟨b, off, l, c, op, yl, yc, yv, rfl, c0, c1, c2, c3, c4, c5⟩ := H2.out j hlt2
          clear c0 c1 c3 c4 c5 H2
          go_wp2
          · go_ret
            exact ⟨⟨_, rfl⟩, rfl⟩
          · go_ret
            exact ⟨⟨_, rfl⟩, rfl⟩
          · go_round
            case rel => exact ⟨⟨_, rfl⟩, j + 1, by omega, by go_num⟩
            case measure => simp [intOf]; omega
        · go_wp2
          go_ret
          exact ⟨⟨_, rfl⟩, rfl⟩
end Go.Proofs.Qxb6608988a
