/-
  SEAT b6608988a: a slice of levels that came in, opened: each element's six cells.
-/
import Derived.Test.Qxb6608988aSizes
import Derived.ProofKit
import Derived.Deep.Slices
namespace Go.Proofs.Qxb6608988a
open Go.ChangeShapes Go.WideShapes Go.ChangeAt Go.RowKit Go.Deep

theorem Try.cells42 : Try.prog.cellsOf 42 = 6 := by kernel_rfl
theorem Try.cells3 : Try.prog.cellsOf 3 = 1 := by kernel_rfl
theorem Try.cells2 : Try.prog.cellsOf 2 = 1 := by kernel_rfl
theorem Try.cells9 : Try.prog.cellsOf 9 = 1 := by kernel_rfl
theorem lev_of_trod {H : Type} {enc : TypeId × Value → H} {W : World} {a : Option Addr} {len cap fuel : Nat} {x : DataW H × List MemPlace}
    (h : DataW.trod enc Try.prog W 0 (fun _ => true) true fuel 22 [.slice a len cap] = some x) : Lev W a len := by
  rcases open_slice Try.underlying22 h with ⟨hcs, _⟩ | ⟨a', len', cap', m, n, D, Pl, hcs, _, hl, _, hm, _, hel⟩
  · simp at hcs
    obtain ⟨rfl, rfl, rfl⟩ := hcs
    intro i hi
    omega
  · simp at hcs
    obtain ⟨rfl, rfl, rfl⟩ := hcs
    simp at hm
    intro i hi
    obtain ⟨cs, hcells, htr⟩ := hel i (by omega)
    rw [Try.cells42] at hcells
    obtain ⟨xs, n', _, _, hlen, hxl, hf⟩ := DataW.trod_struct Try.underlying42 htr
    rw [Try.cells42] at hlen
    have hx := World.cells?_some hcells
    match cs, hlen with
    | [v0, v1, v2, v3, v4, v5], _ =>
      have f0 := hf 0 _ rfl
      have f1 := hf 1 _ rfl
      have f2 := hf 2 _ rfl
      have f3 := hf 3 _ rfl
      have f4 := hf 4 _ rfl
      have f5 := hf 5 _ rfl
      simp [Try.cells3, Try.cells9, Try.cells2] at f0 f1 f2 f3 f4 f5 hxl
      have g : ∀ j, j < 6 → ∃ y, xs[j]? = some y := fun j hj => ⟨xs[j]'(by omega), List.getElem?_eq_getElem _⟩
      obtain ⟨y0, e0⟩ := g 0 (by omega)
      obtain ⟨y1, e1⟩ := g 1 (by omega)
      obtain ⟨y2, e2⟩ := g 2 (by omega)
      obtain ⟨y3, e3⟩ := g 3 (by omega)
      obtain ⟨y4, e4⟩ := g 4 (by omega)
      obtain ⟨y5, e5⟩ := g 5 (by omega)
      obtain ⟨l, r0, _⟩ := DataW.trod_int Try.underlying3 (f0.trans e0)
      obtain ⟨c, r1, _⟩ := DataW.trod_int Try.underlying3 (f1.trans e1)
      obtain ⟨op, r2, _⟩ := DataW.trod_string Try.underlying9 (f2.trans e2)
      obtain ⟨yl, r3, _⟩ := DataW.trod_int Try.underlying3 (f3.trans e3)
      obtain ⟨yc, r4, _⟩ := DataW.trod_int Try.underlying3 (f4.trans e4)
      obtain ⟨yv, r5, _⟩ := DataW.trod_int Try.underlying2 (f5.trans e5)
      simp at r0 r1 r2 r3 r4 r5
      subst r0 r1 r2 r3 r4 r5
      have hc := hx.2.2
      obtain ⟨b, off, spot⟩ := a'
      have hspot : spot = none := by
        obtain ⟨cs0, hcells0, _⟩ := hel 0 (by omega)
        rw [Try.cells42] at hcells0
        obtain ⟨_, hl0, h0⟩ := World.cells?_some hcells0
        have h00 := h0 0 (by omega)
        rw [List.getElem?_eq_getElem (by omega)] at h00
        simpa [Addr.add] using World.cell?_spot h00
      subst hspot
      have hc' : ∀ j, j < 6 → W.cell? ⟨b, off + i * 6 + j, none⟩ = [Value.int .i64 l, .int .i64 c, .string op, .int .i64 yl, .int .i64 yc, .int .i64 yv][j]? := fun j hj => by
        rw [← hc j hj, add_plain, add_plain]
      exact ⟨b, off, l, c, op, yl, yc, yv, rfl, hc' 0 (by omega), hc' 1 (by omega), hc' 2 (by omega), hc' 3 (by omega), hc' 4 (by omega), hc' 5 (by omega)⟩
end Go.Proofs.Qxb6608988a
