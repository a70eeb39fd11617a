/-
  slices.SortFunc (34) with list$1 (35), on a row of positions that the call owns.
-/
import Derived.Test.Qxb6601677aListGather
import Derived.Shelf.SlSortCmp.WholeK
import Derived.Shelf.SlSortCmp.NoneTotal
import Derived.Shelf.Lay
import Derived.Ground.SlsfProg
import Derived.Shelf.SlGeneric
namespace Go.Proofs
open Go.Shelf Go.RowKit Go.Lib Go.Sort
set_option maxRecDepth 20000
shelf_lay_g SlLaysF0.n6 Slsf 6 at Try 34 as Try.sortL
end Go.Proofs

namespace Go.Proofs.Qxb6601677a
open Go.Shelf Go.RowKit Go.Lib Go.Sort
set_option linter.unusedVariables false

/-- A line, clamped to an int. -/
def cl (n : Nat) : Int := ((min n 9223372036854775807 : Nat) : Int)
theorem cl_range (n : Nat) : 0 ≤ cl n ∧ cl n ≤ 9223372036854775807 := by unfold cl; omega
theorem cl_id (n : Nat) (h : n ≤ 9223372036854775807) : cl n = n := by unfold cl; omega
def encP (x : Nat × Nat) : List Value := [.int .i64 (cl x.1), .pointer (some ⟨x.2, 0, none⟩)]
def cfP (x y : Nat × Nat) : Int := cl x.1 - cl y.1

theorem ltP (x y : Nat × Nat) : ltOf cfP x y = decide (cl x.1 < cl y.1) := by
  unfold ltOf cfP
  exact decide_eq_decide.2 ⟨fun h => by omega, fun h => by omega⟩

theorem swoP : SWO (ltOf cfP) where
  irrefl x := by rw [ltP]; simp
  trans x y z h1 h2 := by rw [ltP] at *; simp at *; omega
  ntrans x y z h1 h2 := by rw [ltP] at *; simp at *; omega

theorem cmp35 (a b : Int) (p q : Option Addr) (ha : 0 ≤ a ∧ a ≤ 9223372036854775807) (hb : 0 ≤ b ∧ b ≤ 9223372036854775807) (W : World) : Calls Try.prog 35 #[.agg #[.int .i64 a, .pointer p], .agg #[.int .i64 b, .pointer q]] W fun e w' => e = .returned (.int .i64 (a - b)) ∧ ∃ q os', w' = grow (W.drewN q) os' := by
  have hw : IntKind.i64.wrap (a - b) = a - b := by rw [IntKind.wrap_i64]; omega
  go_enter Try.func35, Try.ntmps35
  go_wp2
  go_ret
  exact ⟨rfl, 0, _, by rw [alloc_eq_grow, alloc_eq_grow, grow_grow]; rfl⟩

theorem cmpLaysP (blk off size : Nat) (w : World) : CmpLays Try.prog 35 #[] encP 2 cfP blk off size w :=
  fun _ _ _ _ x y => cmp35 (cl x.1) (cl y.1) _ _ (cl_range _) (cl_range _) _

theorem flatMap_get (L : List (Nat × Nat)) : ∀ t, t < L.length * 2 → (L.flatMap encP)[t]? = some (encP L[t / 2]!)[t % 2]! := by
  induction L with
  | nil => intro t ht; simp at ht
  | cons x L ih =>
    intro t ht
    match t, ht with
    | 0, _ => simp [encP]
    | 1, _ => simp [encP]
    | t + 2, ht =>
      have h1 : (t + 2) / 2 = t / 2 + 1 := by omega
      have h2 : (t + 2) % 2 = t % 2 := by omega
      rw [h1, h2]
      have := ih t (by simp at ht; omega)
      simpa [encP] using this

theorem flat_enc (L : List (Nat × Nat)) (h : ∀ x ∈ L, x.1 ≤ 9223372036854775807) : flat L = L.flatMap encP := by
  induction L with
  | nil => rfl
  | cons x L ih =>
    have h0 := cl_id x.1 (h x (by simp))
    have := ih fun y hy => h y (by simp [hy])
    simp only [flat, List.flatMap_cons] at *
    rw [this]
    simp [encP, h0]

theorem flatK_list (L : List (Nat × Nat)) : (flatK encP 2 L.toArray).toList = L.flatMap encP := by
  have hl : ∀ L : List (Nat × Nat), (L.flatMap encP).length = L.length * 2 := by
    intro L
    induction L with
    | nil => rfl
    | cons x L ih => simp [encP] at *; omega
  apply List.ext_getElem?
  intro t
  by_cases ht : t < L.length * 2
  · rw [flatMap_get L t ht, Array.getElem?_toList, Array.getElem?_eq_getElem (by simpa using ht)]
    have := get_flatK encP 2 L.toArray t (by simpa using ht)
    rw [getElem!_pos _ t (by simpa using ht)] at this
    rw [this]
    simp
  · rw [List.getElem?_eq_none (by simp; omega), List.getElem?_eq_none (by rw [hl]; omega)]

theorem take_put (cur F : Array Value) (h : F.size ≤ cur.size) : (putCells id 0 F cur).toList.take F.size = F.toList := by
  apply List.ext_getElem?
  intro j
  by_cases hj : j < F.size
  · rw [List.getElem?_take_of_lt hj, Array.getElem?_toList]
    simp [putCells, hj, show j < cur.size by omega]
  · rw [List.getElem?_take_eq_none (by omega), List.getElem?_eq_none (by simp; omega)]

/-- The sort, of a row that the call owns. -/
theorem sort_any (base : Nat) (v : Value) (L : List (Nat × Nat)) (W : World) (hv : W.ownsRow base 71 2 v L.length (flat L)) (hL : ∀ x ∈ L, x.1 ≤ 9223372036854775807) (hn : L.length ≤ 100000) :
    Calls Try.prog 34 #[v, .func (.func 35) #[] #[]] W fun e w' => e = .returned (.tuple #[]) ∧ ∃ L' : List (Nat × Nat), L'.Perm L ∧ (∀ i j, i < j → j < L'.length → L'[i]!.1 ≤ L'[j]!.1) ∧ w'.ownsRow base 71 2 v L'.length (flat L') ∧ W.grownBy w' v.ownBlock := by
  obtain ⟨hl, h⟩ := hv
  rcases h with ⟨rfl, h0⟩ | ⟨g, cap, cur, rfl, hb, hg, h1, h2, h3, h4⟩
  · obtain rfl : L = [] := List.eq_nil_of_length_eq_zero h0
    refine (AnyF.slices_SortFunc_none (P := Try.prog) Try.sortL none 0 (.func (.func 35) #[] #[]) W).mono ?_
    rintro e w' ⟨rfl, rfl⟩
    exact ⟨rfl, [], .refl _, by simp, World.ownsRow_nil _ _ _ _, World.grownBy.refl _ _⟩
  · have eg : ∀ args w, (callFunc 35 args).run Try.prog w = .ok (.enter 35 args) w := enters_of Try.func35 (by kernel_rfl) rfl
    have hgs : g < W.heap.size := (Array.getElem?_eq_some_iff.1 hg).1
    have hH : HoldsK encP 2 W g 0 L.toArray := by
      intro j hj
      have hj' : j < L.length * 2 := by simpa using hj
      refine ⟨?_, by simp [World.frozen?, hg]⟩
      rw [get_flatK _ _ _ _ (by simpa using hj')]
      have h5 : (cur.toList.take (L.length * 2))[j]? = some (encP L[j / 2]!)[j % 2]! := by rw [h4, flat_enc L hL, flatMap_get L j hj']
      rw [List.getElem?_take_of_lt hj'] at h5
      simp only [World.cell?, hg, Nat.zero_add]
      simp only [Option.isSome_none, Bool.false_eq_true, if_false]
      rw [← Array.getElem?_toList, h5]
      simp
    have hcon := AnyQ.slices_SortFunc (P := Try.prog) Try.sortL 2 Try.isAgg71 Try.sizeOf71 encP (fun _ => rfl) (fun x v hv => by simp [encP] at hv; rcases hv with rfl | rfl <;> rfl) cfP swoP 35 #[] g 0 cap L.toArray W eg (cmpLaysP g 0 _ W) hH hgs (by simp; omega)
    have e1 : L.toArray.size = L.length := by simp
    rw [e1] at hcon
    refine hcon.mono ?_
    rintro e w' ⟨rfl, d', n, os, hp, hs, rfl⟩
    have hsz : d'.size = L.length := by simpa using hp.1
    have hperm : d'.toList.Perm L := by
      have := hp.2.2
      simp only [Array.toList_extract, List.extract_toArray] at this
      simpa [List.take_of_length_le, hsz] using this
    refine ⟨rfl, d'.toList, hperm, ?_, ?_, ?_⟩
    · intro i j hij hj
      have hj2 : j < d'.size := by simpa using hj
      have h6 := hs i j (Nat.zero_le _) hij (by omega)
      have m1 : d'[i]! ∈ L := hperm.mem_iff.1 (by rw [getElem!_pos _ i (by omega)]; exact Array.getElem_mem_toList _)
      have m2 : d'[j]! ∈ L := hperm.mem_iff.1 (by rw [getElem!_pos _ j (by omega)]; exact Array.getElem_mem_toList _)
      have c1 := cl_id _ (hL _ m1)
      have c2 := cl_id _ (hL _ m2)
      rw [ltP] at h6
      simp only [decide_eq_false_iff_not] at h6
      rw [c1, c2] at h6
      have e3 : d'.toList[i]! = d'[i]! := by rw [getElem!_pos _ i (by simp; omega), getElem!_pos _ i (by omega)]; simp
      have e4 : d'.toList[j]! = d'[j]! := by rw [getElem!_pos _ j (by simp; omega), getElem!_pos _ j (by omega)]; simp
      rw [e3, e4]
      omega
    · have hfl : d'.toList.length = L.length := by simpa using hsz
      refine ⟨flat_length _, .inr ⟨g, cap, putCells id 0 (flatK encP 2 d') cur, by rw [hfl], hb, ?_, by omega, h2, by simp [putCells, h3], ?_⟩⟩
      · unfold sortWorldK
        rw [heap_grow_old _ _ (by simpa [putRowK] using hgs)]
        simp [putRowK, putRow, mapBlock, Sort.ahead, Array.getElem?_modify, hg, onCells]
      · have hF := take_put cur (flatK encP 2 d') (by rw [size_flatK, h3, hsz]; omega)
        rw [size_flatK] at hF
        rw [hfl, ← hsz, hF, flat_enc _ (fun x hx => hL x (hperm.mem_iff.1 hx))]
        exact flatK_list d'.toList
    · refine ⟨rfl, rfl, rfl, by simp [sortWorldK, putRowK], fun k hk hne => ?_⟩
      unfold sortWorldK
      rw [heap_grow_old _ _ (by simpa [putRowK] using hk)]
      have : g ≠ k := fun e => hne (by rw [e]; rfl)
      simp [putRowK, putRow, mapBlock, Sort.ahead, Array.getElem?_modify, this]

end Go.Proofs.Qxb6601677a
