/-
  What the texts of newNeeds share (they stand apart from the texts of list's sorting).
-/
import Derived.Test.Qxb6601677aListGather
import Derived.OneCell
namespace Go.Proofs.Qxb6601677a
open Go.RowKit
set_option linter.unusedVariables false

theorem hid {p : Prop} (h : p) : Hid p := h
theorem cOther {w : World} {a b : Addr} {v : Value} (h : a ≠ b) : (w.setCell a v).cell? b = w.cell? b := by apply World.cell?_setCell_other; exact h
theorem cSame {w : World} {a : Addr} {v : Value} {u : Value} (h : w.cell? a = some u) : (w.setCell a v).cell? a = some v := by apply World.cell?_setCell_same; exact h
theorem cAlloc {w : World} {a : Addr} {o : Obj} (h : a.block < w.heap.size) : (w.alloc o).cell? a = w.cell? a := by apply World.cell?_alloc_lt; exact h
theorem fAlloc {w : World} {a : Addr} {o : Obj} (h : a.block ≠ w.heap.size) : (w.alloc o).frozen? a = w.frozen? a := by apply World.frozen?_alloc_old; exact h

theorem addr_ne {b b' o o' : Nat} (h : b ≠ b' ∨ o ≠ o') : (⟨b, o, none⟩ : Addr) ≠ ⟨b', o', none⟩ := by
  intro e
  injection e with e1 e2
  rcases h with h | h
  · exact h e1
  · exact h e2

/-- A row's value, opened. -/
theorem own_slice {w : World} {base : Nat} {e : TypeId} {size : Nat} {v : Value} {n : Nat} {xs : List Value} (h : w.ownsRow base e size v n xs) : ∃ ao cap, v = .slice ao n cap ∧ n ≤ cap ∧ (0 < n → ∃ g, ao = some ⟨g, 0, none⟩ ∧ base ≤ g ∧ g < w.heap.size) := by
  rcases h.2 with ⟨rfl, rfl⟩ | ⟨g, cap, cur, rfl, hb, hg, h1, _⟩
  · exact ⟨none, 0, rfl, Nat.le_refl _, fun h => absurd h (by omega)⟩
  · exact ⟨_, cap, rfl, h1, fun _ => ⟨g, rfl, hb, (Array.getElem?_eq_some_iff.1 hg).1⟩⟩

end Go.Proofs.Qxb6601677a
