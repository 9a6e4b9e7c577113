/-
  SEAT b6609139a: what the two laws over readings share: the caller's own copy of the flags; two pointers held against each other.
-/
import Derived.Test.Qxb6609139aTwice
import Derived.LaidEqlPtr
namespace Go.Proofs.Qxb6609139a
open Go.RowKit

/-- Some bool comes back. -/
def ABool (e : Ending) : Prop := ∃ b, e = .returned (.bool b)

theorem Try.info4 : (Try.prog.info? 4).map (fun i => (i.zero, i.size, i.bytes)) = some (some (.bool false), 1, 1) := by kernel_rfl
theorem Try.size4 : (Try.prog.info? 4).map (·.size) = some 1 := by kernel_rfl
theorem qn27 (w : World) (a : Option Addr) (n c n' c' : Nat) : (binOp .neq 27 (.slice a n c) (.slice none n' c')).run Try.prog w = .ok (.bool (!a.isNone)) w :=
  run_neq_slice_nil_any w _ _ a n c n' c' Try.underlying27
/-- A reading's pointer is itself. -/
theorem same32 (R : Nat) (w : World) : (binOp .neq 32 (ptrV R) (ptrV R)).run Try.prog w = .ok (.bool false) w := by
  obtain ⟨j, hj, _⟩ := info98
  have h : ∀ d : Nat, (Op.equalIn (d + 1) 32 (.pointer (some ⟨R, 0, none⟩)) (.pointer (some ⟨R, 0, none⟩))).run Try.prog w = .ok true w := fun d => by
    simp [Op.equalIn, run_underlying Try.underlying32, sizeOf, typeInfo, hj, run_sameAddr_same]
  simp only [binOp]
  simp [Op.equal, Op.maxDepth, h 9999]

theorem drawn_below {B : Nat} {w w' : World} (h : Below B w w') (m : Nat) : Below B w (w'.drewN m) := h.trans ⟨rfl, rfl, rfl, Nat.le_refl _, fun _ _ => rfl⟩

/-- 'zzc := make([]T, n); copy(zzc, xs)': the copy's run: the new row holds what xs holds; nothing old turns. -/
theorem fresh_copy {P : Program} (w : World) (T E ty : TypeId) (z : Value) (n c : Nat) (x : Addr) (V : Nat → Value) (hu : P.underlying T = some (.slice E)) (hs : (P.info? E).map (·.size) = some 1)
    (hsrc : ∀ i, i < n → w.cell? (x.add i) = some (V i)) (h1 : ∀ i, (V i).oneCell' = true) :
    ∃ w2, (Builtin.copy_ #[T, T] ty #[.slice (some ⟨w.heap.size, 0, none⟩) n n, .slice (some x) n c]).run P (w.alloc (.cells (madeCells #[z] n) E)) = .ok (goInt n) w2 ∧ w2.rowIs w.heap.size E n V ∧ Below w.heap.size w w2 := by
  have hl : ((List.range n).map V).length = n := by simp
  have hg : (w.alloc (.cells (madeCells #[z] n) E)).heap[w.heap.size]? = some (.cells (madeCells #[z] n) E (0, 0)) := heap_alloc_new w _
  have hz : (madeCells #[z] n).size = n := by simpa using size_madeCells #[z] n
  have hr := run_copy_row (P := P) (w.alloc (.cells (madeCells #[z] n) E)) T T ty E w.heap.size 0 n n x n c (madeCells #[z] n) E ((List.range n).map V) hu hs hg (by rw [hl]; exact (Nat.min_self n).symm)
    (fun j v hj => by
      have hj' : j < n := by have := (List.getElem?_eq_some_iff.1 hj).1; simpa using this
      rw [List.getElem?_map, List.getElem?_range hj'] at hj
      cases hj
      have h0 := hsrc j hj'
      exact (World.cell?_alloc_lt _ _ _ (World.block_lt_of_cell? _ _ h0)).trans h0)
    (by rw [hl]; omega) (fun v hv => by obtain ⟨i, _, rfl⟩ := List.mem_map.1 hv; exact h1 i)
  rw [hl] at hr
  refine ⟨_, hr, ?_, below_setRow ((Below.refl _ _).alloc (Nat.le_refl _) _) (Nat.le_refl _) _⟩
  have e : ((madeCells #[z] n).toList.take 0 ++ (List.range n).map V ++ (madeCells #[z] n).toList.drop (0 + n)).toArray = ((List.range n).map V).toArray := by
    rw [List.take_zero, List.nil_append, List.drop_eq_nil_of_le (by simp [hz]), List.append_nil]
  rw [e]
  exact ⟨_, setRow_heap _ _ _ _ _ _ hg, by simp, fun i hi => by simp [hi]⟩

/-- The flags, in blocks ahead of B. -/
def Early (w : World) (B : Nat) (a : Option Addr) (n : Nat) (V : Nat → Bool) : Prop := ∀ i, i < n → ∃ g, g < B ∧ a = some ⟨g, 0, none⟩ ∧ w.cell? ⟨g, i, none⟩ = some (.bool (V i))
theorem Early.below {w w' : World} {B : Nat} {a : Option Addr} {n : Nat} {V : Nat → Bool} (h : Early w B a n V) (hb : Below B w w') : Early w' B a n V := fun i hi => by
  obtain ⟨g, hg, e, hc⟩ := h i hi
  exact ⟨g, hg, e, (hb.cell (p := ⟨g, i, none⟩) hg).trans hc⟩
theorem Bools.early {w : World} {a : Option Addr} {n : Nat} {V : Nat → Bool} (h : Bools w a n V) : Early w w.heap.size a n V := fun i hi => by
  obtain ⟨g, e, hc⟩ := h i hi
  exact ⟨g, World.block_lt_of_cell? w _ hc, e, hc⟩
end Go.Proofs.Qxb6609139a
