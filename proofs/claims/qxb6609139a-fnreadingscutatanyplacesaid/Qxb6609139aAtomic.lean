/-
  SEAT b6609139a: atomic.Pointer's Store and Load, in the run of one goroutine.
-/
import Derived.Test.Qxb6609139aProg
import Derived.WalkKit
import Derived.WalkSpells
import Derived.Laws.LoneSync
namespace Go.Proofs.Qxb6609139a
open Go.RowKit

abbrev ptrV (b : Nat) : Value := .pointer (some ⟨b, 0, none⟩)

section
variable {P : Program} {f : FuncId} {fn : Func}
/-- sync/atomic.LoadPointer: what the cell holds. -/
theorem call_load_ptr (hf : P.funcs[f]? = some fn) (hname : (fn.name == "runtime.NumGoroutine") = false) (hb : fn.body.isNone = true) (hn : Extern.findNext fn = none)
    (he : Extern.find fn = some (Extern.Atomic.loadT .ptr)) {a : Addr} {x : Option Addr} {w : World} (hc : w.cell? a = some (.pointer x)) :
    (callFunc f #[.pointer (some a)]).run P w = .ok (.value (.pointer x)) w := by
  rw [run_callFunc_extern hf hname hb hn he]
  change (Sem.run P (do Extern.Atomic.read .ptr (← asAddr (.pointer (some a)))) w).andThen _ = _
  simp [Extern.Atomic.read, asAddr, hc, Result.andThen]
/-- sync/atomic.StorePointer: the pointer is stored. -/
theorem call_store_ptr (hf : P.funcs[f]? = some fn) (hname : (fn.name == "runtime.NumGoroutine") = false) (hb : fn.body.isNone = true) (hn : Extern.findNext fn = none)
    (he : Extern.find fn = some Extern.Atomic.storeT) {a : Addr} {y : Option Addr} {u : Value} {w : World} (hc : w.cell? a = some u) (hz : w.frozen? a = false) :
    (callFunc f #[.pointer (some a), .pointer y]).run P w = .ok (.value (.tuple #[])) (w.setCell a (.pointer y)) := by
  rw [run_callFunc_extern hf hname hb hn he]
  change (Sem.run P (do
    store (← asAddr (.pointer (some a))) (.pointer y) .atomic
    pure Extern.Atomic.none_) w).andThen _ = _
  simp [asAddr, hc, hz, run_store P w a (.pointer y) .atomic rfl, Result.andThen, Extern.Atomic.none_]
end

theorem lies98 : liesAt Try.prog Try.prog.depth 98 (1 / Try.prog.cellsOf 98) 0 98 1 = true := by kernel_rfl
theorem info98 : ∃ j, Try.prog.info? 98 = some j ∧ j.size ≠ 0 := by
  have h : (Try.prog.info? 98).map (fun i => decide (i.size = 0)) = some false := by kernel_rfl
  obtain ⟨j, hj, hz⟩ := Option.map_eq_some_iff.1 h
  exact ⟨j, hj, by simpa using hz⟩

/-- Block R is a reading. -/
def ReadAt (w : World) (R : Nat) : Prop := w.heap[R]? = some (.cells #[.nilIface] 98 (0, 0))
theorem ReadAt.shape {w : World} {R : Nat} (h : ReadAt w R) : w.shape? R = some (98, 1) := by
  unfold ReadAt at h
  simp [World.shape?, h]

/-- The conversion of a raw pointer to a reading's: the address as it is. -/
theorem conv_down {R : Nat} {w : World} (h : ReadAt w R) : (convert 63 32 (.pointer (some ⟨R, 0, none⟩))).run Try.prog w = .ok (.pointer (some ⟨R, 0, none⟩)) w := by
  have l := lies98
  have hsh := h.shape
  obtain ⟨j, hj, _⟩ := info98
  simp only [convert, Sem.run_bind, run_underlying Try.underlying63, run_underlying Try.underlying32, Result.andThen_ok]
  change Sem.run Try.prog (Bind.bind (underlying 63) _) w = _
  simp [run_underlying Try.underlying63, run_underlying Try.underlying32, Conv.seenAt, viewAt, variablesAt, l, hsh, sizeOf, typeInfo, hj]

/-- .. and back. -/
theorem conv_up {R : Nat} {w : World} (h : ReadAt w R) : (convert 32 63 (.pointer (some ⟨R, 0, none⟩))).run Try.prog w = .ok (.pointer (some ⟨R, 0, none⟩)) w := by
  have hsh := h.shape
  obtain ⟨j, hj, hz⟩ := info98
  simp only [convert, Sem.run_bind, run_underlying Try.underlying63, run_underlying Try.underlying32, Result.andThen_ok]
  change Sem.run Try.prog (Bind.bind (underlying 32) _) w = _
  simp [run_underlying Try.underlying63, run_underlying Try.underlying32, Conv.seenAt, viewAt, cellsIn, hsh, sizeOf, typeInfo, hj, hz]

set_option maxHeartbeats 400000 in
theorem store17 (L R : Nat) (u : Value) (w : World) (hu : w.cell? ⟨L, 5, none⟩ = some u) (hf : w.frozen? ⟨L, 5, none⟩ = false) (hR : ReadAt w R) :
    Calls Try.prog 17 #[.pointer (some ⟨L, 5, none⟩), ptrV R] w fun e w' => e = .returned (.tuple #[]) ∧ w' = w.setCell ⟨L, 5, none⟩ (ptrV R) := by
  have hst := call_store_ptr (P := Try.prog) Try.func20 (by kernel_rfl) (by kernel_rfl) (by kernel_rfl) (by kernel_rfl) (y := some ⟨R, 0, none⟩) hu hf
  have hcv := conv_up hR
  go_enter Try.func17, Try.ntmps17
  go_wp2
  go_end0
  exact ⟨rfl, rfl⟩

set_option maxHeartbeats 400000 in
theorem load18 (L R : Nat) (w : World) (hu : w.cell? ⟨L, 5, none⟩ = some (ptrV R)) (hR : ReadAt w R) :
    Calls Try.prog 18 #[.pointer (some ⟨L, 5, none⟩)] w fun e w' => e = .returned (ptrV R) ∧ w' = w := by
  have hld := call_load_ptr (P := Try.prog) Try.func21 (by kernel_rfl) (by kernel_rfl) (by kernel_rfl) (by kernel_rfl) hu
  have hcv := conv_down hR
  go_enter Try.func18, Try.ntmps18
  go_wp2
  go_ret
  exact ⟨rfl, rfl⟩
end Go.Proofs.Qxb6609139a
