/-
  slices.Sort (31), slices.Compact (32), slices.BinarySearch (33) at int64, on rows that the call owns.
-/
import Derived.Test.Qxb6601677aRows
import Derived.Shelf.SortM.Plain
import Derived.Shelf.SortM.SortNone
import Derived.Shelf.SlicesG.CompactI
import Derived.Shelf.SlicesG.SearchI
import Derived.Shelf.Lay
import Derived.Ground.SlgmProg
import Derived.Ground.SlgnProg
import Derived.Shelf.SlGeneric
import Derived.Sort.OwnSortedInts
import Derived.Lib.RowBridge
import Derived.OwnWalk
namespace Go.Proofs
open Go.Shelf Go.RowKit Go.Lib Go.Sort
set_option maxRecDepth 20000
shelf_lay_g SlLaysM.n5 Slgm 5 at Try 31 as Try.sortI
shelf_lay_g SlLaysN.n43 Slgn 43 at Try 32 as Try.compI
shelf_lay_g SlLaysN.n49 Slgn 49 at Try 33 as Try.bsI
end Go.Proofs

namespace Go.Proofs.Qxb6601677a
open Go.Shelf Go.RowKit Go.Lib Go.Sort
set_option linter.unusedVariables false

theorem sortI_any (base : Nat) (v : Value) (A : List Int) (W : World) (hv : W.ownsRow base 2 1 v A.length (A.map (Value.int .i64))) (hn : A.length ≤ 100000) :
    Calls Try.prog 31 #[v] W fun e w' => e = .returned (.tuple #[]) ∧ w'.ownsRow base 2 1 v A.length ((A.mergeSort fun x y => decide (x ≤ y)).map (Value.int .i64)) ∧ W.grownBy w' v.ownBlock := by
  obtain ⟨hl, h⟩ := hv
  rcases h with ⟨rfl, h0⟩ | ⟨g, cap, cur, rfl, hb, hg, h1, h2, h3, h4⟩
  · obtain rfl : A = [] := List.eq_nil_of_length_eq_zero h0
    refine (AnyM.slices_Sort_int_none (P := Try.prog) Try.sortI none 0 W).mono ?_
    rintro e w' ⟨rfl, rfl⟩
    exact ⟨rfl, by rw [List.mergeSort_nil]; exact World.ownsRow_nil _ _ _ _, World.grownBy.refl _ _⟩
  · have hgs : g < W.heap.size := (Array.getElem?_eq_some_iff.1 hg).1
    refine (AnyM.slices_Sort_int (P := Try.prog) Try.sortI g 0 cap A W (holds_of_blockI hg (by rw [Nat.mul_one] at h4; exact h4)) hgs (by omega)).mono ?_
    rintro e w' ⟨rfl, n, os, rfl⟩
    refine ⟨rfl, ?_, grownBy_sortedI _⟩
    exact ownsRow_sortedI (by simp) hb hg h1 h2 h3

theorem compI_any (base : Nat) (v : Value) (Z : List Int) (W : World) (hv : W.ownsRow base 2 1 v Z.length (Z.map (Value.int .i64))) (hn : Z.length ≤ 100000) :
    Calls Try.prog 32 #[v] W fun e w' => ∃ v', e = .returned v' ∧ w'.ownsRow base 2 1 v' (compact Z).length ((compact Z).map (Value.int .i64)) ∧ W.grownBy w' v.ownBlock := by
  obtain ⟨hl, h⟩ := hv
  rcases h with ⟨rfl, h0⟩ | ⟨g, cap, cur, rfl, hb, hg, h1, h2, h3, h4⟩
  · obtain rfl : Z = [] := List.eq_nil_of_length_eq_zero h0
    refine (AnyG.slices_Compact_int_empty (P := Try.prog) Try.compI none 0 W).mono ?_
    rintro e w' ⟨rfl, rfl⟩
    exact ⟨_, rfl, World.ownsRow_nil _ _ _ _, World.grownBy.refl _ _⟩
  · have hgs : g < W.heap.size := (Array.getElem?_eq_some_iff.1 hg).1
    refine (AnyG.slices_Compact_int (P := Try.prog) Try.compI g 0 cap Z W (holds_of_blockI hg (by rw [Nat.mul_one] at h4; exact h4)) (by omega) h1).mono ?_
    rintro e w' ⟨rfl, q, rfl⟩
    have hcl := compact_length_le Z
    have hR : (compact Z ++ List.replicate (Z.length - (compact Z).length) 0).length = Z.length := by simp; omega
    have e0 : putRow (Value.int .i64) (Sort.ahead W q) g 0 (compact Z ++ List.replicate (Z.length - (compact Z).length) 0).toArray = grow (putRow (Value.int .i64) (Sort.ahead W q) g 0 (compact Z ++ List.replicate (Z.length - (compact Z).length) 0).toArray) #[] := by
      rw [grow_empty]
    rw [e0]
    refine ⟨_, rfl, ⟨by simp, .inr ⟨g, cap, _, rfl, hb, heap_sortedI _ hg, by omega, h2, by simp [putCells, h3], ?_⟩⟩, grownBy_sortedI _⟩
    have ht := take_putCellsI cur (compact Z ++ List.replicate (Z.length - (compact Z).length) 0) (by rw [hR]; omega)
    rw [hR] at ht
    have h5 : List.take (compact Z).length (List.take Z.length (putCells (Value.int .i64) 0 (compact Z ++ List.replicate (Z.length - (compact Z).length) 0).toArray cur).toList) = (compact Z).map (Value.int .i64) := by
      rw [ht]
      simp
    rw [Nat.mul_one]
    rw [List.take_take, Nat.min_eq_left hcl] at h5
    exact h5

theorem bsI_any (g n cap : Nat) (V : List Int) (x : Int) (W : World) (hV : V.length = n) (hn : n ≤ 100000) (hc : ∀ j, j < n → W.cell? ⟨g, j, none⟩ = some (.int .i64 (V.getD j 0))) (hs : V.Pairwise (· ≤ ·)) :
    Calls Try.prog 33 #[.slice (some ⟨g, 0, none⟩) n cap, .int .i64 x] W fun e w' => ∃ b : Bool, e = .returned (.tuple #[.int .i64 ((V.countP (fun y => decide (y < x)) : Nat) : Int), .bool b]) ∧ ∃ q, w' = W.drewN q := by
  have htk : V.take n = V := List.take_of_length_le (by omega)
  refine (AnyG.slices_BinarySearch_int (P := Try.prog) Try.bsI g 0 n cap V x W (by omega) (by omega) (fun j hj => by rw [Nat.zero_add]; exact hc j (by omega)) (by rw [htk]; exact hs)).mono ?_
  rintro e w' ⟨rfl, q, rfl⟩
  rw [htk]
  exact ⟨_, rfl, q, rfl⟩

/-! ### plain: compact of a sorted list is strictly ascending and has the same members -/
theorem compact_facts (Z : List Int) (hs : ∀ i j, i ≤ j → j < Z.length → Z[i]! ≤ Z[j]!) : ∀ m, m ≤ Z.length → (compactUpTo Z.toArray m).Pairwise (· < ·) ∧ (∀ x, x ∈ compactUpTo Z.toArray m ↔ ∃ j, j < m ∧ Z[j]! = x) := by
  intro m
  induction m with
  | zero => intro _; exact ⟨by simp [compactUpTo], fun x => by simp [compactUpTo]⟩
  | succ m ih =>
    intro hm
    obtain ⟨h1, h2⟩ := ih (by omega)
    have hz : ∀ j, (Z.toArray)[j]! = Z[j]! := fun j => by
      by_cases hj : j < Z.length
      · rw [getElem!_pos Z.toArray j (by simpa using hj), getElem!_pos Z j hj]; simp
      · rw [getElem!_neg Z.toArray j (by simpa using hj), getElem!_neg Z j hj]
    rw [compactUpTo_succ]
    by_cases hk : keeps Z.toArray m = true
    · rw [if_pos hk]
      refine ⟨?_, ?_⟩
      · rw [List.pairwise_append]
        refine ⟨h1, by simp, ?_⟩
        intro a ha b hb
        simp only [List.mem_singleton] at hb
        subst hb
        obtain ⟨j, hj, rfl⟩ := (h2 a).1 ha
        simp only [keeps, decide_eq_true_eq, hz] at hk
        rw [hz]
        have e1 := hs j (m - 1) (by omega) (by omega)
        have e2 := hs (m - 1) m (by omega) (by omega)
        have e3 : Z[m]! ≠ Z[m - 1]! := by
          rcases hk with h | h
          · omega
          · exact h
        omega
      · intro x
        rw [List.mem_append, h2, List.mem_singleton, hz]
        constructor
        · rintro (⟨j, hj, e⟩ | e)
          · exact ⟨j, by omega, e⟩
          · exact ⟨m, by omega, e.symm⟩
        · rintro ⟨j, hj, e⟩
          by_cases hjm : j = m
          · subst hjm; exact .inr e.symm
          · exact .inl ⟨j, by omega, e⟩
    · rw [if_neg hk, List.append_nil]
      refine ⟨h1, fun x => ?_⟩
      rw [h2]
      constructor
      · rintro ⟨j, hj, e⟩; exact ⟨j, by omega, e⟩
      · rintro ⟨j, hj, e⟩
        by_cases hjm : j = m
        · subst hjm
          simp only [keeps, decide_eq_true_eq, hz] at hk
          have h0 : j ≠ 0 := fun h => hk (.inl h)
          have h3 : Z[j]! = Z[j - 1]! := Decidable.byContradiction fun h => hk (.inr h)
          exact ⟨j - 1, by omega, by rw [← h3]; exact e⟩
        · exact ⟨j, by omega, e⟩

/-- The versions: the counted numbers, each once, ascending. -/
def vers (A : List Int) : List Int := compact (A.mergeSort fun x y => decide (x ≤ y))

theorem vers_facts (A : List Int) : (vers A).Pairwise (· < ·) ∧ ∀ x, x ∈ vers A ↔ x ∈ A := by
  have hsrt : (A.mergeSort fun x y => decide (x ≤ y)).Pairwise (fun x y => x ≤ y) := by
    have := List.pairwise_mergeSort (le := fun x y : Int => decide (x ≤ y)) (fun a b c h1 h2 => by simp at *; omega) (fun a b => by simp; omega) A
    exact this.imp (fun h => by simpa using h)
  have hs : ∀ i j, i ≤ j → j < (A.mergeSort fun x y => decide (x ≤ y)).length → (A.mergeSort fun x y => decide (x ≤ y))[i]! ≤ (A.mergeSort fun x y => decide (x ≤ y))[j]! := by
    intro i j hij hj
    rw [getElem!_pos _ i (by omega), getElem!_pos _ j hj]
    by_cases h : i = j
    · subst h; exact Int.le_refl _
    · exact List.pairwise_iff_getElem.1 hsrt i j (by omega) hj (by omega)
  obtain ⟨h1, h2⟩ := compact_facts _ hs _ (Nat.le_refl _)
  refine ⟨h1, fun x => ?_⟩
  have h3 : x ∈ vers A ↔ x ∈ A.mergeSort fun x y => decide (x ≤ y) := by
    unfold vers compact
    rw [h2]
    constructor
    · rintro ⟨j, hj, e⟩
      rw [← e, getElem!_pos _ j hj]
      exact List.getElem_mem _
    · intro hx
      obtain ⟨j, hj, e⟩ := List.getElem_of_mem hx
      exact ⟨j, hj, by rw [getElem!_pos _ j hj]; exact e⟩
  rw [h3, (List.mergeSort_perm A _).mem_iff]

/-- Two lists with the same members have the same versions. -/
theorem strict_ext : ∀ (U V : List Int), U.Pairwise (· < ·) → V.Pairwise (· < ·) → (∀ x, x ∈ U ↔ x ∈ V) → U = V
  | [], [], _, _, _ => rfl
  | [], y :: V, _, _, h => absurd ((h y).2 (by simp)) (by simp)
  | x :: U, [], _, _, h => absurd ((h x).1 (by simp)) (by simp)
  | x :: U, y :: V, hU, hV, h => by
    rw [List.pairwise_cons] at hU hV
    have hxy : x = y := by
      rcases List.mem_cons.1 ((h x).1 (by simp)) with e | e
      · exact e
      · rcases List.mem_cons.1 ((h y).2 (by simp)) with e' | e'
        · exact e'.symm
        · have := hV.1 x e
          have := hU.1 y e'
          omega
    subst hxy
    rw [strict_ext U V hU.2 hV.2 (fun z => by
      constructor
      · intro hz
        rcases List.mem_cons.1 ((h z).1 (by simp [hz])) with e | e
        · have := hU.1 z hz; omega
        · exact e
      · intro hz
        rcases List.mem_cons.1 ((h z).2 (by simp [hz])) with e | e
        · have := hV.1 z hz; omega
        · exact e)]

end Go.Proofs.Qxb6601677a
