/-
  SEAT b6609139a: match, ZZMatchPath.
-/
import Derived.Test.Qxb6609139aPrefix
import Derived.Deep.OwnRows
namespace Go.Proofs.Qxb6609139a
open Go.RowKit

/-- The first of the indices below n at which p says yes. -/
def fm (p : Nat → Bool) : Nat → Option Nat
  | 0 => none
  | n + 1 => match fm p n with
    | some j => some j
    | none => if p n then some n else none
theorem fm_none {p : Nat → Bool} {n : Nat} (h : ∀ j, j < n → p j = false) : fm p n = none := by
  induction n with
  | zero => rfl
  | succ n ih => simp [fm, ih (fun j hj => h j (by omega)), h n (by omega)]
theorem fm_keep {p : Nat → Bool} {k j n : Nat} (h : fm p k = some j) (hn : k ≤ n) : fm p n = some j := by
  induction n with
  | zero => obtain rfl : k = 0 := by omega
            exact h
  | succ n ih =>
    by_cases e : k = n + 1
    · subst e; exact h
    · simp [fm, ih (by omega)]
theorem fm_first {p : Nat → Bool} {k n : Nat} (h : ∀ j, j < k → p j = false) (hp : p k = true) (hn : k < n) : fm p n = some k :=
  fm_keep (k := k + 1) (by simp [fm, fm_none h, hp]) hn

/-- The reserved head of a path. -/
abbrev latch : ByteArray := ⟨#[47, 95, 108, 97, 116, 99, 104, 47]⟩

/-- What match comes to. -/
def found (path : ByteArray) (S : Nat → ByteArray) (n : Nat) : Option Nat := if pre path latch = true then none else fm (fun i => pre path (S i)) n

/-- A gateway in block G: its areas, a row AR of n pointers to blocks that each begin with a path. -/
def Gate (w : World) (G AR n : Nat) (blk : Nat → Nat) (S : Nat → ByteArray) : Prop :=
  w.cell? ⟨G, 2, none⟩ = some (.slice (some ⟨AR, 0, none⟩) n n) ∧ ∀ i, i < n → w.cell? ⟨AR, i, none⟩ = some (.pointer (some ⟨blk i, 0, none⟩)) ∧ w.cell? ⟨blk i, 0, none⟩ = some (.string (S i))

theorem fm_lt {p : Nat → Bool} {n j : Nat} (h : fm p n = some j) : j < n := by
  induction n with
  | zero => cases h
  | succ n ih =>
    simp only [fm] at h
    split at h
    · rename_i i hi
      cases h
      have := ih hi
      omega
    · split at h
      · cases h
        omega
      · cases h
theorem fm_yes {p : Nat → Bool} {n j : Nat} (h : fm p n = some j) : p j = true := by
  induction n with
  | zero => cases h
  | succ n ih =>
    simp only [fm] at h
    split at h
    · rename_i i hi
      cases h
      exact ih hi
    · split at h
      · cases h
        assumption
      · cases h
theorem found_lt {path : ByteArray} {S : Nat → ByteArray} {n j : Nat} (h : found path S n = some j) : j < n := by
  unfold found at h
  split at h
  · cases h
  · exact fm_lt h

theorem ret_ptr {a b : Option Addr} (h : a = b) : Ending.returned (.pointer a) = .returned (.pointer b) := by rw [h]

set_option maxHeartbeats 400000 in
theorem match13 (path : ByteArray) (G AR n : Nat) (blk : Nat → Nat) (S : Nat → ByteArray) (w : World) (hn : n ≤ 1048576) (hg : Gate w G AR n blk S) :
    Calls Try.prog 13 #[.pointer (some ⟨G, 0, none⟩), .string path] w fun e w' => e = .returned (.pointer ((found path S n).map fun i => ⟨blk i, 0, none⟩)) ∧ w' = w := by
  have hG := hg.1
  have HR : Hid (∀ i, i < n → w.cell? ⟨AR, i, none⟩ = some (.pointer (some ⟨blk i, 0, none⟩)) ∧ w.cell? ⟨blk i, 0, none⟩ = some (.string (S i))) := hg.2
  clear hg
  cases hL : pre path latch
  · go_enter Try.func13, Try.ntmps13
    go_wp2_with (go_at_call 16; refine (hp16 _ _ _).mono ?_; rintro e w' ⟨rfl, hw⟩; subst w')
    go_loop [14] (fun i => ∃ k : Nat, k ≤ n ∧ i = .int .i64 k ∧ ∀ j, j < k → pre path (S j) = false) (fun i => n - (intOf i).toNat)
    case atStart => exact ⟨0, Nat.zero_le _, rfl, fun j h => absurd h (Nat.not_lt_zero _)⟩
    case round =>
      obtain ⟨k, hk, rfl, hno⟩ := hrel
      have HNO : Hid (∀ j, j < k → pre path (S j) = false) := hno
      clear hno
      by_cases hlt : k < n
      · obtain ⟨c0, c1⟩ := HR.out k hlt
        clear HR
        cases hP : pre path (S k)
        · go_wp2_with (go_at_call 16; refine (hp16 _ _ _).mono ?_; rintro e w' ⟨rfl, hw⟩; subst w')
          go_round
          case rel =>
            refine ⟨k + 1, by omega, by go_num, fun j hj => ?_⟩
            by_cases e : j = k
            · subst e; exact hP
            · exact HNO.out j (by omega)
          case measure => simp [intOf]; omega
        · go_wp2_with (go_at_call 16; refine (hp16 _ _ _).mono ?_; rintro e w' ⟨rfl, hw⟩; subst w')
          go_ret
          exact ⟨ret_ptr (by simp [found, hL, fm_first (p := fun i => pre path (S i)) HNO.out hP hlt]), rfl⟩
      · go_wp2
        go_ret
        have e : k = n := by omega
        subst e
        exact ⟨ret_ptr (by simp [found, hL, fm_none (p := fun i => pre path (S i)) HNO.out]), rfl⟩
  · go_enter Try.func13, Try.ntmps13
    go_wp2_with (go_at_call 16; refine (hp16 _ _ _).mono ?_; rintro e w' ⟨rfl, hw⟩; subst w')
    go_ret
    exact ⟨ret_ptr (by simp [found, hL]), rfl⟩

theorem Try.info37 : (Try.prog.info? 37).map (fun i => (i.zero, i.size, i.bytes)) = some (some (.pointer none), 1, 8) := by kernel_rfl

/-- What the loop of ZZMatchPath knows: k areas are laid, area j in block B + 1 + j; the row of pointers is block B. -/
structure Laid (w wr : World) (n k : Nat) (S : Nat → ByteArray) : Prop where
  size : wr.heap.size = w.heap.size + 1 + k
  row : wr.rowIs w.heap.size 37 n (fun j => .pointer (if j < k then some ⟨w.heap.size + 1 + j, 0, none⟩ else none))
  cells : ∀ j, j < k → wr.cell? ⟨w.heap.size + 1 + j, 0, none⟩ = some (.string (S j))
  bel : Below w.heap.size w wr

theorem Laid.gate {w wr : World} {n : Nat} {S : Nat → ByteArray} (h : Laid w wr n n S) (r : Array Value) (hr : r[2]? = some (.slice (some ⟨w.heap.size, 0, none⟩) n n)) :
    Gate (wr.alloc (.cells r 70)) wr.heap.size w.heap.size n (fun j => w.heap.size + 1 + j) S := by
  have hb : Below wr.heap.size wr (wr.alloc (.cells r 70)) := (Below.refl _ _).alloc (Nat.le_refl _) _
  refine ⟨by rw [World.cell?_alloc_at r 70 _ 2 rfl]; exact hr, fun i hi => ⟨?_, ?_⟩⟩
  · rw [hb.cell (p := ⟨w.heap.size, i, none⟩) h.row.lt, h.row.cell hi, if_pos hi]
  · exact (hb.cell (p := ⟨w.heap.size + 1 + i, 0, none⟩) (World.block_lt_of_cell? _ _ (h.cells i hi))).trans (h.cells i hi)

theorem Laid.step {w wr : World} {n k : Nat} {S : Nat → ByteArray} (h : Laid w wr n k S) (r : Array Value) (hr : r[0]? = some (.string (S k))) :
    Laid w ((wr.setCell ⟨w.heap.size, k, none⟩ (.pointer (some ⟨wr.heap.size, 0, none⟩))).alloc (.cells r 45)) n (k + 1) S := by
  have hz : (wr.setCell ⟨w.heap.size, k, none⟩ (.pointer (some ⟨wr.heap.size, 0, none⟩))).heap.size = w.heap.size + 1 + k := by simp [World.setCell, h.size]
  have hb : Below (w.heap.size + 1 + k) (wr.setCell ⟨w.heap.size, k, none⟩ (.pointer (some ⟨wr.heap.size, 0, none⟩))) ((wr.setCell ⟨w.heap.size, k, none⟩ (.pointer (some ⟨wr.heap.size, 0, none⟩))).alloc (.cells r 45)) :=
    (Below.refl _ _).alloc (by rw [hz]; exact Nat.le_refl _) _
  refine ⟨by simp [World.setCell, h.size]; omega, ?_, fun j hj => ?_, (h.bel.setCell (Nat.le_refl _) _).trans (hb.mono (by omega))⟩
  · refine ((h.row.set k _).alloc (.cells r 45)).congr fun j _ => ?_
    by_cases e : j = k
    · subst e; simp [h.size]
    · simp only [e, if_false]
      by_cases hk : j < k
      · rw [if_pos hk, if_pos (by omega)]
      · rw [if_neg hk, if_neg (by omega)]
  · by_cases e : j = k
    · subst e
      rw [World.cell?_alloc_at r 45 _ 0 hz.symm]
      exact hr
    · rw [hb.cell (p := ⟨w.heap.size + 1 + j, 0, none⟩) (by simp; omega), World.cell?_setCell_other _ _ _ _ (by intro h; have := congrArg Addr.block h; simp at this; omega)]
      exact h.cells j (by omega)

set_option maxHeartbeats 1000000 in
theorem zmp7 (a : Option Addr) (n cp : Nat) (path : ByteArray) (S : Nat → ByteArray) (w : World) (hn : n ≤ 1048576) (hS : ∀ i, i < n → ∃ g, a = some ⟨g, 0, none⟩ ∧ w.cell? ⟨g, i, none⟩ = some (.string (S i))) :
    Calls Try.prog 7 #[.slice a n cp, .string path] w fun e w' => ((found path S n = none ∧ e = .returned (.tuple #[.string ByteArray.empty, .bool false])) ∨ ∃ j, found path S n = some j ∧ e = .returned (.tuple #[.string (S j), .bool true])) ∧ Below w.heap.size w w' := by
  have HS : Hid (∀ i, i < n → ∃ g, a = some ⟨g, 0, none⟩ ∧ w.cell? ⟨g, i, none⟩ = some (.string (S i))) := hS
  clear hS
  have hmk := run_make_row' (P := Try.prog) 36 37 (.pointer none) 8 Try.underlying36 Try.info37 rfl .i64 .i64 n (by omega) (by omega)
  go_enter Try.func7, Try.ntmps7
  go_wp2
  clear hmk
  go_loopw [7] (fun i wr => ∃ k : Nat, k ≤ n ∧ i = .int .i64 k ∧ Laid w wr n k S) (fun i _ => n - (intOf i).toNat)
  case atStart => exact ⟨0, Nat.zero_le _, rfl, by simp, (World.rowIs_made _ _ _ _).congr (fun _ _ => by simp), fun j h => absurd h (Nat.not_lt_zero _), (Below.refl _ _).alloc (Nat.le_refl _) _⟩
  case round =>
    obtain ⟨k, hk, rfl, hlaid⟩ := hrel
    by_cases hlt : k < n
    · obtain ⟨g, rfl, hc0⟩ := HS.out k hlt
      have hgw : g < w.heap.size := World.block_lt_of_cell? w _ hc0
      have hc := (hlaid.bel.cell (p := ⟨g, k, none⟩) hgw).trans hc0
      have hAR : w.heap.size < wr.heap.size := hlaid.row.lt
      have hgr : g < wr.heap.size := by omega
      have hcell := hlaid.row.cell hlt
      have hfr := hlaid.row.frozen k
      have HLd : Hid (Laid w wr n k S) := hlaid
      clear hlaid HS hc0
      go_wp2
      go_roundw
      case rel => exact ⟨k + 1, by omega, by go_num, HLd.out.step _ rfl⟩
      case measure => simp [intOf]; omega
    · have HLd : Hid (Laid w wr n k S) := hlaid
      have e : k = n := by omega
      subst e
      clear hlaid
      cases hF : found path S k with
      | none =>
        go_wp2_with fail
        refine (match13 path wr.heap.size w.heap.size k (fun j => w.heap.size + 1 + j) S _ hn ?_).mono ?_
        · exact HLd.out.gate _ rfl
        rintro e w' ⟨rfl, hw⟩
        subst w'
        rw [hF]
        go_wp2
        go_ret2
        exact ⟨.inl ⟨hF, rfl⟩, HLd.out.bel.alloc (by have := HLd.out.size; omega) _⟩
      | some j =>
        go_wp2_with fail
        refine (match13 path wr.heap.size w.heap.size k (fun j => w.heap.size + 1 + j) S _ hn ?_).mono ?_
        · exact HLd.out.gate _ rfl
        rintro e w' ⟨rfl, hw⟩
        subst w'
        rw [hF]
        have hj := found_lt hF
        have hcj := HLd.out.cells j hj
        have hjl : w.heap.size + 1 + j < wr.heap.size := World.block_lt_of_cell? _ _ hcj
        go_wp2
        go_ret2
        exact ⟨.inr ⟨j, hF, rfl⟩, HLd.out.bel.alloc (by have := HLd.out.size; omega) _⟩
end Go.Proofs.Qxb6609139a
