/-
  newNeeds: what it is told, what it leaves. Plain.
-/
import Derived.Test.Qxb6601677aNeedsLib
import Derived.Test.Qxb6601677aNeedsBase
import Derived.Test.Qxb6601677aNeedsMini2
namespace Go.Proofs.Qxb6601677a
open Go.RowKit
set_option linter.unusedVariables false

/-- The counted numbers of the first k calls. -/
def cA (at' : Nat → Int) (K : Nat → Bool) : Nat → List Int
  | 0 => []
  | k + 1 => cA at' K k ++ if K k = true then [at' k] else []

theorem cA_len (at' : Nat → Int) (K : Nat → Bool) (k : Nat) : (cA at' K k).length ≤ k := by
  induction k with
  | zero => simp [cA]
  | succ k ih => simp only [cA, List.length_append]; split <;> simp <;> omega

theorem cA_mem (at' : Nat → Int) (K : Nat → Bool) (k : Nat) (x : Int) : x ∈ cA at' K k ↔ ∃ j, j < k ∧ K j = true ∧ at' j = x := by
  induction k with
  | zero => simp [cA]
  | succ k ih =>
    simp only [cA, List.mem_append, ih]
    constructor
    · rintro (⟨j, hj, h1, h2⟩ | h)
      · exact ⟨j, by omega, h1, h2⟩
      · split at h
        · rename_i hk
          simp at h
          exact ⟨k, by omega, hk, h.symm⟩
        · simp at h
    · rintro ⟨j, hj, h1, h2⟩
      by_cases hjk : j = k
      · subst hjk
        rw [if_pos h1]
        exact .inr (by simp [h2])
      · exact .inl ⟨j, by omega, h1, h2⟩

/-- What newNeeds is told. -/
structure NPre (W : World) (S n : Nat) (E P : Nat → Nat) (at' : Nat → Int) (rs os : Nat → ByteArray) : Prop where
  es : ∀ j, j < n → W.cell? ⟨S, j, none⟩ = some (.pointer (some ⟨E j, 0, none⟩))
  eo : ∀ j, j < n → W.cell? ⟨E j, 0, none⟩ = some (.pointer (some ⟨P j, 0, none⟩))
  ea : ∀ j, j < n → W.cell? ⟨E j, 7, none⟩ = some (.int .i64 (at' j))
  en : ∀ j, j < n → ∃ u, W.cell? ⟨E j, 8, none⟩ = some u
  ef : ∀ j, j < n → W.frozen? ⟨E j, 8, none⟩ = false
  po : ∀ j, j < n → W.cell? ⟨P j, 0, none⟩ = some (.string (os j))
  pr : ∀ j, j < n → W.cell? ⟨P j, 6, none⟩ = some (.string (rs j))
  inj : ∀ i j, i < n → j < n → E i = E j → i = j
  ep : ∀ i j, i < n → j < n → E i ≠ P j
  eS : ∀ i, i < n → E i ≠ S
  lt : S < W.heap.size

theorem Try.info2 : (Try.prog.info? 2).map (fun i => (i.zero, i.size, i.bytes)) = some (some (.int .i64 0), 1, 8) := by kernel_rfl
theorem Try.info3n : (Try.prog.info? 3).map (fun i => (i.zero, i.size, i.bytes)) = some (some (.int .i64 0), 1, 8) := by kernel_rfl

/-- The box of the needs. -/
def NBox (w : World) (M : Nat) (v c : Value) : Prop := w.heap[M]? = some (.cells #[v, c, .int .i64 0] 65)

theorem NBox.cells {w : World} {M : Nat} {v c : Value} (h : NBox w M v c) : w.cell? ⟨M, 0, none⟩ = some v ∧ w.cell? ⟨M, 1, none⟩ = some c ∧ w.cell? ⟨M, 2, none⟩ = some (.int .i64 0) ∧ (∀ o, w.frozen? ⟨M, o, none⟩ = false) ∧ M < w.heap.size := by
  unfold NBox at h
  refine ⟨by simp [World.cell?, h], by simp [World.cell?, h], by simp [World.cell?, h], fun o => by simp [World.frozen?, h], (Array.getElem?_eq_some_iff.1 h).1⟩

theorem NBox.row_ne {w : World} {M : Nat} {v c : Value} (h : NBox w M v c) {base : Nat} {e : TypeId} {size : Nat} {v' : Value} {n : Nat} {xs : List Value} (hv : w.ownsRow base e size v' n xs) (he : e ≠ 65) : v'.ownBlock ≠ some M := by
  rcases hv.2 with ⟨rfl, _⟩ | ⟨g, cap, cur, rfl, _, hg, _⟩
  · simp [Value.ownBlock]
  · intro hh
    simp only [Value.ownBlock, Option.some.injEq] at hh
    subst hh
    unfold NBox at h
    rw [hg] at h
    simp at h
    exact he h.2

theorem NBox.grown {w w' : World} {M : Nat} {v c : Value} {row : Option Nat} (h : NBox w M v c) (hg : w.grownBy w' row) (hr : row ≠ some M) : NBox w' M v c := by
  unfold NBox
  rw [hg.block M h.cells.2.2.2.2 (fun e => hr e.symm)]
  exact h

theorem NBox.alloc {w : World} {M : Nat} {v c : Value} (h : NBox w M v c) (o : Obj) : NBox (w.alloc o) M v c := by
  unfold NBox
  rw [Below.heap_alloc _ _ _ h.cells.2.2.2.2]
  exact h

theorem NBox.drew {w : World} {M : Nat} {v c : Value} (h : NBox w M v c) : NBox w.drew M v c := h
theorem NBox.drewN {w : World} {M : Nat} {v c : Value} (h : NBox w M v c) (q : Nat) : NBox (w.drewN q) M v c := h
theorem NBox.other {w : World} {M : Nat} {v c : Value} (h : NBox w M v c) (a : Addr) (u : Value) (ha : M ≠ a.block) : NBox (w.setCell a u) M v c := by
  unfold NBox
  rw [Below.heap_setCell _ _ _ _ ha]
  exact h

theorem NBox.set0 {w : World} {M : Nat} {v c : Value} (h : NBox w M v c) (u : Value) : NBox (w.setCell ⟨M, 0, none⟩ u) M u c := by
  unfold NBox at *
  have := heap_setCell_same w M 0 #[v, c, .int .i64 0] 65 u h
  rw [this]
  rfl

theorem NBox.set1 {w : World} {M : Nat} {v c : Value} (h : NBox w M v c) (u : Value) : NBox (w.setCell ⟨M, 1, none⟩ u) M v u := by
  unfold NBox at *
  have := heap_setCell_same w M 1 #[v, c, .int .i64 0] 65 u h
  rw [this]
  rfl

end Go.Proofs.Qxb6601677a
