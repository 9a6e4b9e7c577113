/-
  SEAT b6608948aD: THE LAW's WALK out of its callees' contracts.
-/
import Derived.Test.Qxb6608948aDoorAppend
import Derived.Test.Qxb6608948aDoorDecode
namespace Go.Proofs.Qxb6608948aDoor
open Go.RowKit

/-- The cells of a row. -/
def cellsOf (Z : Nat → Int) (n : Nat) : List Value := (List.range n).map fun i => .int .u8 (Z i)
theorem cellsOf_length (Z : Nat → Int) (n : Nat) : (cellsOf Z n).length = n := by simp [cellsOf]
theorem cellsOf_get (Z : Nat → Int) (n i : Nat) (h : i < n) : (cellsOf Z n)[i]? = some (.int .u8 (Z i)) := by simp [cellsOf, h]

/-- A row is an owned row. -/
theorem owns_of_row {w : World} {g n B : Nat} {Z : Nat → Int} (h : w.rowIs g 5 n (fun i => .int .u8 (Z i))) (hB : B ≤ g) (hn : n ≤ 1048576) :
    w.ownsRow B 5 1 (.slice (some ⟨g, 0, none⟩) n n) n (cellsOf Z n) := by
  obtain ⟨c, hb, hs, hc⟩ := h
  refine ⟨by simp [cellsOf_length], .inr ⟨g, n, c, rfl, hB, hb, Nat.le_refl _, by unfold maxLen; omega, by simpa using hs, ?_⟩⟩
  apply List.ext_getElem?
  intro i
  by_cases hi : i < n
  · rw [cellsOf_get Z n i hi, List.getElem?_take_of_lt (by omega)]
    simpa using hc i hi
  · rw [List.getElem?_eq_none (by simp; omega), List.getElem?_eq_none (by rw [cellsOf_length]; omega)]

/-- wb1Clone, whatever comes in (nil too): what comes back, as the law goes on with it. -/
theorem clone_all (a : Option Addr) (n c : Nat) (Z : Nat → Int) (w : World) (hn : n ≤ 1048576) (hnil : a = none → n = 0 ∧ c = 0) (hcell : ∀ x, a = some x → ∀ i, i < n → w.cell? (x.add i) = some (.int .u8 (Z i))) :
    Calls Tryd.prog 5 #[.slice a n c] w fun e w' => ∃ a' c', e = .returned (.slice a' n c') ∧ w'.ownsRow w.heap.size 5 1 (.slice a' n c') n (cellsOf Z n) ∧
      (∀ i, i < n → ∃ g, a' = some ⟨g, 0, none⟩ ∧ g < w'.heap.size ∧ w'.cell? ⟨g, i, none⟩ = some (.int .u8 (Z i))) ∧ Below w.heap.size w w' := by
  cases a with
  | none =>
    obtain ⟨rfl, rfl⟩ := hnil rfl
    refine (clone_nil w).mono ?_
    rintro e w' ⟨rfl, rfl⟩
    exact ⟨none, 0, rfl, World.ownsRow_nil _ _ _ _, fun i hi => by omega, Below.refl _ _⟩
  | some x =>
    refine (clone_any x n c Z w hn (hcell x rfl)).mono ?_
    rintro e w' ⟨rfl, hrow, hsz, hb⟩
    exact ⟨_, n, rfl, owns_of_row hrow (Nat.le_refl _) hn, fun i hi => ⟨_, rfl, by omega, hrow.cell hi⟩, hb⟩

/-- ZZFetchStateAppendFields, what comes back written out, cell by cell. -/
theorem append_all (B n : Nat) (v : Int) (h0 : 0 ≤ v) (hv : v < 18446744073709551616) (sv : Value) (Z : Nat → Int) (w : World) (hown : w.ownsRow B 5 1 sv n (cellsOf Z n)) (hBw : B ≤ w.heap.size) (hlim : n ≤ 1048576) :
    Calls Tryd.prog 6 #[.agg #[.int .u64 v], sv] w fun e w' => ∃ g cap, e = .returned (.slice (some ⟨g, 0, none⟩) (n + 8) cap) ∧ n + 8 ≤ cap ∧ B ≤ g ∧ g < w'.heap.size ∧
      (∀ i, i < n → w'.cell? ⟨g, i, none⟩ = some (.int .u8 (Z i))) ∧ (∀ j u, (be8 v)[j]? = some u → w'.cell? ⟨g, n + j, none⟩ = some u) ∧ Below B w w' := by
  refine (append6 B n v h0 hv sv (cellsOf Z n) w hown hBw (by omega)).mono ?_
  rintro e w' ⟨v', rfl, hown', hb⟩
  rcases hown'.2 with ⟨_, h⟩ | ⟨g, cap, cur, rfl, hg, hh, hle, _, _, _⟩
  · omega
  · have hat := hown'.cellAt
    refine ⟨g, cap, rfl, hle, hg, (Array.getElem?_eq_some_iff.1 hh).1, fun i hi => ?_, fun j u hu => ?_, hb⟩
    · rw [hat i (by omega), List.getElem?_append_left (by rw [cellsOf_length]; exact hi)]
      exact cellsOf_get Z n i hi
    · have hj : j < 8 := (List.getElem?_eq_some_iff.1 hu).1
      rw [hat (n + j) (by omega), List.getElem?_append_right (by rw [cellsOf_length]; omega), cellsOf_length, Nat.add_sub_cancel_left]
      exact hu

/-- NewDecoder: a new block p that holds the slice and no error; all that was there stands. -/
theorem new_all (a : Option Addr) (n c : Nat) (w : World) :
    Calls Tryd.prog 8 #[.slice a n c] w fun e w' => ∃ p, e = .returned (.pointer (some ⟨p, 0, none⟩)) ∧ w.heap.size ≤ p ∧ w'.cell? ⟨p, 0, none⟩ = some (.slice a n c) ∧ w'.cell? ⟨p, 1, none⟩ = some .nilIface ∧ w'.frozen? ⟨p, 0, none⟩ = false ∧ Below w.heap.size w w' := by
  refine (new8 a n c w).mono ?_
  rintro e w' ⟨rfl, rfl⟩
  have hh : (w.alloc (.cells #[.slice a n c, .nilIface] 38)).heap[w.heap.size]? = some (.cells #[.slice a n c, .nilIface] 38 (0, 0)) := heap_alloc_new w _
  exact ⟨_, rfl, Nat.le_refl _, by simp only [World.cell?, hh]; rfl, by simp only [World.cell?, hh]; rfl, by simp only [World.frozen?, hh]; rfl, (Below.refl _ _).alloc (Nat.le_refl _) _⟩

/-- The eight bytes spell the number. -/
theorem spell (v : Int) (_h0 : 0 ≤ v) (_hv : v < 18446744073709551616) :
    v % 256 + v / 256 % 256 * 256 + v / 65536 % 256 * 65536 + v / 16777216 % 256 * 16777216 + v / 4294967296 % 256 * 4294967296 + v / 1099511627776 % 256 * 1099511627776 + v / 281474976710656 % 256 * 281474976710656 + v / 72057594037927936 * 72057594037927936 = v := by omega

/-- Uint64 reads back the number whose eight bytes are left. -/
theorem uint_all (p g o c : Nat) (v : Int) (h0 : 0 ≤ v) (hv : v < 18446744073709551616) (w : World) (hc : 8 ≤ c) (hgp : g < p) (f0 : w.cell? ⟨p, 0, none⟩ = some (.slice (some ⟨g, o, none⟩) 8 c)) (f1 : w.cell? ⟨p, 1, none⟩ = some .nilIface) (ff : w.frozen? ⟨p, 0, none⟩ = false)
    (hC : ∀ j u, (be8 v)[j]? = some u → w.cell? ⟨g, o + j, none⟩ = some u) :
    Calls Tryd.prog 9 #[.pointer (some ⟨p, 0, none⟩)] w fun e w' => e = .returned (.int .u64 v) ∧ (∃ a', w'.cell? ⟨p, 0, none⟩ = some (.slice a' 0 (c - 8))) ∧ w'.cell? ⟨p, 1, none⟩ = some .nilIface ∧ Below p w w' := by
  have U := uint9 p g o c (v / 72057594037927936) (v / 281474976710656 % 256) (v / 1099511627776 % 256) (v / 4294967296 % 256) (v / 16777216 % 256) (v / 65536 % 256) (v / 256 % 256) (v % 256) w hc hgp f0 f1 ff
    (hC 0 _ rfl) (hC 1 _ rfl) (hC 2 _ rfl) (hC 3 _ rfl) (hC 4 _ rfl) (hC 5 _ rfl) (hC 6 _ rfl) (hC 7 _ rfl)
    (by omega) (by omega) (by omega) (by omega) (by omega) (by omega) (by omega) (by omega) (by omega) (by omega) (by omega) (by omega) (by omega) (by omega) (by omega) (by omega)
  rw [spell v h0 hv] at U
  exact U

set_option maxHeartbeats 1000000 in
theorem walk_big (v : Int) (a : Option Addr) (n c : Nat) (w : World) (hn : 1048576 < n) :
    Calls Tryd.prog 3 #[.int .u64 v, .slice a n c] w fun e w' => e = .returned (.bool true) ∧ Below w.heap.size w w' := by
  go_enter Tryd.func3, Tryd.ntmps3
  go_wp2_with (go_at_call 4; refine (bytes4 _ _ _ _ _).mono ?_; rintro e w' ⟨⟨b, rfl⟩, rfl⟩)
  all_goals (go_ret; exact ⟨rfl, Below.refl _ _⟩)

set_option maxHeartbeats 1000000 in
theorem walk (v : Int) (h0 : 0 ≤ v) (hv : v < 18446744073709551616) (a : Option Addr) (n c : Nat) (Z : Nat → Int) (w : World) (hn : n ≤ 1048576) (hnil : a = none → n = 0 ∧ c = 0) (hcell : ∀ x, a = some x → ∀ i, i < n → w.cell? (x.add i) = some (.int .u8 (Z i))) :
    Calls Tryd.prog 3 #[.int .u64 v, .slice a n c] w fun e w' => e = .returned (.bool true) ∧ Below w.heap.size w w' := by
  have HN : Hid (a = none → n = 0 ∧ c = 0) := hnil
  have HC : Hid (∀ x, a = some x → ∀ i, i < n → w.cell? (x.add i) = some (.int .u8 (Z i))) := hcell
  clear hnil hcell
  go_enter Tryd.func3, Tryd.ntmps3
  go_wp2_with fail
  refine (bytes4 _ _ _ _ _).mono ?_
  rintro e w1 ⟨⟨b, rfl⟩, hw1⟩
  subst hw1
  cases b
  · go_wp2
    go_ret
    exact ⟨rfl, Below.refl _ _⟩
  go_wp2_with fail
  refine (clone_all a n c Z _ hn HN.out HC.out).mono ?_
  rintro e w1 ⟨a1, c1, rfl, hown1, hc1, hb1⟩
  have HC1 : Hid (∀ x, a = some x → ∀ i, i < n → w1.cell? (x.add i) = some (.int .u8 (Z i))) := fun x hx i hi =>
    (hb1.cell (World.block_lt_of_cell? _ _ (HC.out x hx i hi))).trans (HC.out x hx i hi)
  have H1 : Hid (∀ i, i < n → ∃ g, a1 = some ⟨g, 0, none⟩ ∧ g < w1.heap.size ∧ w1.cell? ⟨g, i, none⟩ = some (.int .u8 (Z i))) := hc1
  clear hc1 hown1
  go_wp2_with fail
  refine (clone_all a n c Z _ hn HN.out HC1.out).mono ?_
  rintro e w2 ⟨a2, c2, rfl, hown2, hcl, hb2⟩
  clear hcl
  go_wp2_with fail
  refine (append_all w1.heap.size n v h0 hv _ Z _ hown2 hb2.size hn).mono ?_
  rintro e w3 ⟨g, cap, rfl, hcap, hg, hgs, hold, hnew, hb3⟩
  have hb13 := hb2.trans hb3
  have HE1 : Hid (∀ i, i < n → ∃ g, a1 = some ⟨g, 0, none⟩ ∧ w3.cell? ⟨g, i, none⟩ = some (.int .u8 (Z i))) := fun i hi => by
    obtain ⟨g1, e1, hl, hc⟩ := H1.out i hi
    exact ⟨g1, e1, (hb13.cell (p := ⟨g1, i, none⟩) hl).trans hc⟩
  have HE2 : Hid (∀ i, i < n → ∃ g', some (⟨g, 0, none⟩ : Addr) = some ⟨g', 0, none⟩ ∧ w3.cell? ⟨g', i, none⟩ = some (.int .u8 (Z i))) := fun i hi => ⟨g, rfl, hold i hi⟩
  have HNW : Hid (∀ j u, (be8 v)[j]? = some u → w3.cell? ⟨g, n + j, none⟩ = some u) := hnew
  have HB : Below _ _ w3 := hb1.trans (hb13.mono hb1.size)
  clear hold hnew hb13 hb2 hb3 hown2 hb1
  have i1 : (n : Int) ≤ (cap : Int) := by omega
  have i2 : (n : Int) + 8 ≤ (cap : Int) := by omega
  have i3 : ((n : Int) + 8 != (n : Int) + 8) = false := by simp
  go_wp2_with fail
  refine (equal_same _ _ n _ _ Z _ hn HE2.out HE1.out).mono ?_
  rintro e w4 ⟨rfl, m, rfl⟩
  go_wp2_with fail
  refine (new_all _ _ _ _).mono ?_
  rintro e w5 ⟨p, rfl, hp, f0, f1, ff, hb5⟩
  have hB5 : Below _ _ w5 := (HB.trans ⟨rfl, rfl, rfl, Nat.le_refl _, fun _ _ => rfl⟩ : Below _ _ (w3.drewN m)).trans (hb5.mono HB.size)
  have hgp : g < p := Nat.lt_of_lt_of_le hgs hp
  have HC5 : Hid (∀ j u, (be8 v)[j]? = some u → w5.cell? ⟨g, n + j, none⟩ = some u) := fun j u hu =>
    (hb5.cell (p := ⟨g, n + j, none⟩) hgs).trans (HNW.out j u hu)
  have HP : Hid (_ ≤ p) := Nat.le_trans HB.size hp
  clear HB hb5 HE1 HE2 H1 HNW HC HC1 HN hp hg hgs
  have hne : (v != v) = false := by simp
  go_wp2_with fail
  refine (uint_all p g n (cap - n) v h0 hv w5 (by omega) hgp f0 f1 ff HC5.out).mono ?_
  rintro e w6 ⟨rfl, ⟨a', g0⟩, g1, hb6⟩
  go_wp2_with fail
  refine (rest10 _ _ _ _ _ g0).mono ?_
  rintro e w7 ⟨rfl, hw7⟩
  subst hw7
  go_wp2_with fail
  refine (err11 _ _ g1).mono ?_
  rintro e w7 ⟨rfl, hw7⟩
  subst hw7
  go_wp2
  go_ret
  exact ⟨rfl, hB5.trans (hb6.mono HP.out)⟩
end Go.Proofs.Qxb6608948aDoor
