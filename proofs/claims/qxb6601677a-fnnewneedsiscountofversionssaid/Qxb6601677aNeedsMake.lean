/-
  The calls that the two laws make: what stands after m of them; what newNeeds is then told.
-/
import Derived.Test.Qxb6601677aNeedsZZ
namespace Go.Proofs.Qxb6601677a
open Go.RowKit
set_option linter.unusedVariables false

/-- After m calls of ZZNewNeedsCall, the blocks that R names changed besides. -/
structure MK (W7 : World) (R : Nat → Prop) (a : Nat → Int) (r o : Nat → ByteArray) (m : Nat) (wx : World) : Prop where
  os : wx.os = W7.os
  tape : wx.tape = W7.tape
  output : wx.output = W7.output
  size : wx.heap.size = W7.heap.size + 2 * m
  keep : ∀ b, b < W7.heap.size → ¬ R b → wx.heap[b]? = W7.heap[b]?
  op : ∀ i, i < m → wx.heap[W7.heap.size + 2 * i]? = some (.cells (opCells (r i) (o i)) 52)
  en : ∀ i, i < m → wx.heap[W7.heap.size + 2 * i + 1]? = some (.cells (enCells (W7.heap.size + 2 * i) (a i)) 57)

theorem made2_size (w : World) (x : Int) (p q : ByteArray) : (made2 w x p q).heap.size = w.heap.size + 2 := by simp [made2]
theorem made2_old (w : World) (x : Int) (p q : ByteArray) (b : Nat) (hb : b < w.heap.size) : (made2 w x p q).heap[b]? = w.heap[b]? := by
  unfold made2
  rw [Below.heap_alloc _ _ _ (by simp; omega), Below.heap_alloc _ _ _ hb]
theorem made2_op (w : World) (x : Int) (p q : ByteArray) : (made2 w x p q).heap[w.heap.size]? = some (.cells (opCells p q) 52) := by
  unfold made2
  rw [Below.heap_alloc _ _ _ (by simp)]
  exact heap_alloc_new w _
theorem made2_en (w : World) (x : Int) (p q : ByteArray) : (made2 w x p q).heap[w.heap.size + 1]? = some (.cells (enCells w.heap.size x) 57) := by
  unfold made2
  have := heap_alloc_new (w.alloc (.cells (opCells p q) 52)) (.cells (enCells w.heap.size x) 57)
  simpa using this

variable {W7 : World} {R : Nat → Prop} {a : Nat → Int} {r o : Nat → ByteArray} {m : Nat} {w w' : World}

theorem MK.same (h : MK W7 R a r o m w) (hh : w'.heap = w.heap) (h1 : w'.os = w.os) (h2 : w'.tape = w.tape) (h3 : w'.output = w.output) : MK W7 R a r o m w' :=
  ⟨h1.trans h.os, h2.trans h.tape, h3.trans h.output, by rw [hh]; exact h.size, fun b hb hr => by rw [hh]; exact h.keep b hb hr, fun i hi => by rw [hh]; exact h.op i hi, fun i hi => by rw [hh]; exact h.en i hi⟩

theorem MK.drew (h : MK W7 R a r o m w) : MK W7 R a r o m w.drew := h.same rfl rfl rfl rfl

theorem MK.make (h : MK W7 R a r o m w) (x : Int) (p q : ByteArray) (hx : x = a m) (hp : p = r m) (hq : q = o m) : MK W7 R a r o (m + 1) (made2 w x p q) := by
  subst hx hp hq
  have hs := h.size
  refine ⟨h.os, h.tape, h.output, by rw [made2_size]; omega, fun b hb hr => by rw [made2_old _ _ _ _ _ (by omega)]; exact h.keep b hb hr, ?_, ?_⟩
  · intro i hi
    by_cases him : i = m
    · subst him
      rw [show W7.heap.size + 2 * i = w.heap.size by omega]
      exact made2_op _ _ _ _
    · rw [made2_old _ _ _ _ _ (by omega)]
      exact h.op i (by omega)
  · intro i hi
    by_cases him : i = m
    · subst him
      rw [show W7.heap.size + 2 * i = w.heap.size by omega]
      exact made2_en _ _ _ _
    · rw [made2_old _ _ _ _ _ (by omega)]
      exact h.en i (by omega)

theorem MK.set (h : MK W7 R a r o m w) {g : Nat} (hg : R g) (hlt : g < W7.heap.size) (k : Nat) (v : Value) : MK W7 R a r o m (w.setCell ⟨g, k, none⟩ v) := by
  refine ⟨h.os, h.tape, h.output, by have := h.size; simpa using this, fun b hb hr => ?_, fun i hi => ?_, fun i hi => ?_⟩
  · rw [Below.heap_setCell _ _ _ _ (by show b ≠ g; rintro rfl; exact hr hg)]
    exact h.keep b hb hr
  · rw [Below.heap_setCell _ _ _ _ (by show _ ≠ g; omega)]
    exact h.op i hi
  · rw [Below.heap_setCell _ _ _ _ (by show _ ≠ g; omega)]
    exact h.en i hi

theorem cells_of {w : World} {b : Nat} {C : Array Value} {t : TypeId} (h : w.heap[b]? = some (.cells C t)) : (∀ i, w.cell? ⟨b, i, none⟩ = C[i]?) ∧ ∀ i, w.frozen? ⟨b, i, none⟩ = false :=
  ⟨fun o => by simp [World.cell?, h], fun o => by simp [World.frozen?, h]⟩

def ptrR (f : Nat → Nat) (n k : Nat) : List Value := cpyR (fun j => .pointer (some ⟨f j, 0, none⟩)) (.pointer none) n k

/-- What newNeeds is told, from the heap. -/
theorem npre_of {w : World} {base S n : Nat} {E P : Nat → Nat} {at' : Nat → Int} {rs os : Nat → ByteArray} (hrow : w.ownsRow base 23 1 (.slice (some ⟨S, 0, none⟩) n n) n (ptrR E n n))
    (hP : ∀ j, j < n → w.heap[P j]? = some (.cells (opCells (rs j) (os j)) 52)) (hE : ∀ j, j < n → w.heap[E j]? = some (.cells (enCells (P j) (at' j)) 57))
    (inj : ∀ i j, i < n → j < n → E i = E j → i = j) (ep : ∀ i j, i < n → j < n → E i ≠ P j) (eS : ∀ i, i < n → E i ≠ S) : NPre w S n E P at' rs os := by
  refine ⟨fun j hj => ?_, fun j hj => ?_, fun j hj => ?_, fun j hj => ?_, fun j hj => ?_, fun j hj => ?_, fun j hj => ?_, inj, ep, eS, (hrow.lt S rfl).2⟩
  · rw [hrow.cellAt j (by omega)]
    exact cpyR_get _ _ _ _ hj
  · rw [(cells_of (hE j hj)).1]; rfl
  · rw [(cells_of (hE j hj)).1]; rfl
  · exact ⟨_, by rw [(cells_of (hE j hj)).1]; rfl⟩
  · exact (cells_of (hE j hj)).2 _
  · rw [(cells_of (hP j hj)).1]; rfl
  · rw [(cells_of (hP j hj)).1]; rfl

/-- A row is kept where its block is. -/
theorem row_block {w w' : World} {base : Nat} {e : TypeId} {size : Nat} {v : Value} {n : Nat} {xs : List Value} (hv : w.ownsRow base e size v n xs) (h : ∀ b, v.ownBlock = some b → w'.heap[b]? = w.heap[b]?) : w'.ownsRow base e size v n xs := by
  refine ⟨hv.1, ?_⟩
  rcases hv.2 with hx | ⟨g, cap, cur, rfl, hb, hg, rest⟩
  · exact .inl hx
  · refine .inr ⟨g, cap, cur, rfl, hb, ?_, rest⟩
    rw [h g rfl]
    exact hg

/-- The cells of a row of integers, as a loop reads them. -/
theorem row_read {w : World} {base n cap : Nat} {e : TypeId} {bo : Option Addr} {xs : List Value} (hv : w.ownsRow base e 1 (.slice bo n cap) n xs) : ∃ B, ∀ j, j < n → bo = some ⟨B, 0, none⟩ ∧ w.cell? ⟨B, j, none⟩ = xs[j]? ∧ B < w.heap.size ∧ base ≤ B := by
  rcases hv.2 with ⟨h0, h1⟩ | ⟨g, cap, cur, h, hb, hg, h1, h2, h3, h4⟩
  · exact ⟨0, fun j hj => by omega⟩
  · cases h
    exact ⟨g, fun j hj => ⟨rfl, hv.cellAt j (by omega), (Array.getElem?_eq_some_iff.1 hg).1, hb⟩⟩

theorem cA_eq (at' : Nat → Int) (K : Nat → Bool) (n : Nat) : cA at' K n = (List.range n).flatMap fun j => if K j = true then [at' j] else [] := by
  induction n with
  | zero => rfl
  | succ n ih => simp only [cA, ih, List.range_succ, List.flatMap_append, List.flatMap_cons, List.flatMap_nil, List.append_nil]

theorem cA_congr {at' b' : Nat → Int} {K L : Nat → Bool} {n : Nat} (h1 : ∀ j, j < n → at' j = b' j) (h2 : ∀ j, j < n → K j = L j) : cA at' K n = cA b' L n := by
  induction n with
  | zero => rfl
  | succ n ih => simp only [cA, ih (fun j hj => h1 j (by omega)) (fun j hj => h2 j (by omega)), h1 n (by omega), h2 n (by omega)]

theorem range_rev (n : Nat) : (List.range n).Perm ((List.range n).map fun j => n - 1 - j) := by
  have h : (List.range n).map (fun j => n - 1 - j) = (List.range n).reverse := by
    apply List.ext_getElem?
    intro i
    by_cases hi : i < n
    · rw [List.getElem?_map, List.getElem?_range hi, List.getElem?_reverse (by simpa using hi)]
      simp only [List.length_range, Option.map_some]
      rw [List.getElem?_range (by omega)]
    · rw [List.getElem?_eq_none (by simp; omega), List.getElem?_eq_none (by simp; omega)]
  rw [h]
  exact (List.reverse_perm _).symm

/-- The reversed calls: the same counted numbers. -/
theorem cA_rev (at' : Nat → Int) (K : Nat → Bool) (n : Nat) : (cA (fun j => at' (n - 1 - j)) (fun j => K (n - 1 - j)) n).Perm (cA at' K n) := by
  rw [cA_eq, cA_eq]
  have h := (range_rev n).flatMap_right (fun j => if K j = true then [at' j] else [])
  refine List.Perm.symm (h.trans ?_)
  rw [List.flatMap_map]

theorem vers_perm {A B : List Int} (h : A.Perm B) : vers A = vers B :=
  strict_ext _ _ (vers_facts A).1 (vers_facts B).1 fun x => by rw [(vers_facts A).2, (vers_facts B).2, h.mem_iff]

end Go.Proofs.Qxb6601677a
