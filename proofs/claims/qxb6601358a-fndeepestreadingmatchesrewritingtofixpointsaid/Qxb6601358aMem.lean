/-
  More on bytes in memory: what can be read stays readable; what append is told of its source.
-/
import Derived.Test.Qxb6601358aBase
namespace Go.Proofs.Qxb6601358a
open Go.ChangeShapes Go.WideShapes Go.ChangeAt Go.RowKit
set_option linter.unusedVariables false

theorem Rd.mono {w w' : World} {a : Option Addr} {zs : List Int} (h : Rd w a zs) (hb : Below w.heap.size w w') : Rd w' a zs := by
  intro i hi
  obtain ⟨b, off, ha, hc⟩ := h i hi
  refine ⟨b, off, ha, ?_⟩
  rw [hb.cell (p := ⟨b, off + i, none⟩) (World.block_lt_of_cell? w _ hc)]
  exact hc

theorem Rd.cells {w : World} {a : Option Addr} {zs : List Int} (h : Rd w a zs) : ∀ ad, a = some ad → ∀ j u, (zs.map (Value.int .u8))[j]? = some u → w.cell? (ad.add j) = some u := by
  intro ad had j u hu
  have hj : j < zs.length := by have := (List.getElem?_eq_some_iff.1 hu).1; simpa using this
  obtain ⟨b, off, ha, hc⟩ := h j hj
  rw [had] at ha
  obtain rfl := Option.some.inj ha
  rw [add_plain, hc, ← hu]
  simp [hj]

theorem Rd.alloc_new (w : World) (zs : List Int) (t : TypeId) : Rd (w.alloc (.cells (zs.map (Value.int .u8)).toArray t)) (some ⟨w.heap.size, 0, none⟩) zs := by
  intro i hi
  refine ⟨w.heap.size, 0, rfl, ?_⟩
  rw [Nat.zero_add, cell_of_row _ w.heap.size i _ t (0, 0) (heap_alloc_new w _)]
  simp [hi]

end Go.Proofs.Qxb6601358a
