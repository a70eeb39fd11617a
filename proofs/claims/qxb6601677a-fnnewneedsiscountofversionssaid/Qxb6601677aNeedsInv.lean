/-
  newNeeds' second loop: what holds after k rounds.
-/
import Derived.Test.Qxb6601677aNeedsPlain
namespace Go.Proofs.Qxb6601677a
open Go.RowKit
set_option linter.unusedVariables false

/-- The need of a call. -/
def ndv (V : List Int) (a : Int) (k : Bool) : Int := if k = true then ((V.countP (fun y => decide (y < a)) : Nat) : Int) else -1

def cntRow (V A : List Int) : List Value := V.map fun x => .int .i64 ((A.count x : Nat) : Int)

structure N2 (W : World) (M n : Nat) (E : Nat → Nat) (at' : Nat → Int) (K : Nat → Bool) (V : List Int) (vV vC : Value) (k : Nat) (wx : World) : Prop where
  os : wx.os = W.os
  tape : wx.tape = W.tape
  output : wx.output = W.output
  size : W.heap.size ≤ wx.heap.size
  keep : ∀ b, b < W.heap.size → (∀ j, j < n → b ≠ E j) → wx.heap[b]? = W.heap[b]?
  box : NBox wx M vV vC
  rv : wx.ownsRow W.heap.size 2 1 vV V.length (V.map (Value.int .i64))
  rc : wx.ownsRow W.heap.size 3 1 vC V.length (cntRow V (cA at' K k))
  c0 : ∀ j, j < n → ∀ o, o ≠ 8 → wx.cell? ⟨E j, o, none⟩ = W.cell? ⟨E j, o, none⟩
  fz : ∀ j, j < n → ∀ o, wx.frozen? ⟨E j, o, none⟩ = W.frozen? ⟨E j, o, none⟩
  n1 : ∀ j, j < k → wx.cell? ⟨E j, 8, none⟩ = some (.int .i64 (ndv V (at' j) (K j)))
  n0 : ∀ j, k ≤ j → j < n → ∃ u, wx.cell? ⟨E j, 8, none⟩ = some u

theorem ownsRow_heap {w w' : World} {base : Nat} {e : TypeId} {size : Nat} {v : Value} {n : Nat} {xs : List Value} (h : w.ownsRow base e size v n xs) (hh : w'.heap = w.heap) : w'.ownsRow base e size v n xs := by
  unfold World.ownsRow at *
  rw [hh]
  exact h
theorem cell_heap {w w' : World} (a : Addr) (hh : w'.heap = w.heap) : w'.cell? a = w.cell? a := World.cell?_of_block (w := w) (by rw [hh])
theorem frozen_heap {w w' : World} (a : Addr) (hh : w'.heap = w.heap) : w'.frozen? a = w.frozen? a := World.frozen?_of_block (w := w) (by rw [hh])

variable {W : World} {M n : Nat} {E : Nat → Nat} {at' : Nat → Int} {K : Nat → Bool} {V : List Int} {vV vC : Value} {k : Nat} {w w' : World}

theorem N2.same (h : N2 W M n E at' K V vV vC k w) (hh : w'.heap = w.heap) (h1 : w'.os = w.os) (h2 : w'.tape = w.tape) (h3 : w'.output = w.output) : N2 W M n E at' K V vV vC k w' := by
  refine ⟨h1.trans h.os, h2.trans h.tape, h3.trans h.output, by rw [hh]; exact h.size, fun b hb hn => by rw [hh]; exact h.keep b hb hn, by unfold NBox; rw [hh]; exact h.box, ownsRow_heap h.rv hh, ownsRow_heap h.rc hh, ?_, ?_, ?_, ?_⟩
  · intro j hj o ho; rw [cell_heap _ hh]; exact h.c0 j hj o ho
  · intro j hj o; rw [frozen_heap _ hh]; exact h.fz j hj o
  · intro j hj; rw [cell_heap _ hh]; exact h.n1 j hj
  · intro j hj hn; rw [cell_heap _ hh]; exact h.n0 j hj hn

/-- A store into the k-th call's need: all else is kept. -/
theorem N2.set (h : N2 W M n E at' K V vV vC k w) (hk : k < n) (inj : ∀ i j, i < n → j < n → E i = E j → i = j) (hE : ∀ j, j < n → E j < W.heap.size) (hM : W.heap.size ≤ M) (u : Value) :
    N2 W M n E at' K V vV vC k (w.setCell ⟨E k, 8, none⟩ u) ∧ (w.setCell ⟨E k, 8, none⟩ u).cell? ⟨E k, 8, none⟩ = some u := by
  obtain ⟨u0, hu0⟩ := h.n0 k (Nat.le_refl _) hk
  have hlt := hE k hk
  refine ⟨⟨h.os, h.tape, h.output, by have := h.size; simpa using this, ?_, ?_, ?_, ?_, ?_, ?_, ?_, ?_⟩, cSame hu0⟩
  · intro b hb hn
    rw [Below.heap_setCell _ _ _ _ (hn k hk)]
    exact h.keep b hb hn
  · exact h.box.other _ _ (by show M ≠ E k; omega)
  · exact ownsRow_setCell_below h.rv hlt _
  · exact ownsRow_setCell_below h.rc hlt _
  · intro j hj o ho
    rw [cOther (addr_ne (.inr (fun e => ho e.symm)))]
    exact h.c0 j hj o ho
  · intro j hj o
    rw [World.frozen?_setCell]
    exact h.fz j hj o
  · intro j hj
    rw [cOther (addr_ne (.inl (fun e => by have := inj k j hk (by omega) e; omega)))]
    exact h.n1 j hj
  · intro j hj hn
    by_cases hjk : j = k
    · subst hjk; exact ⟨u, cSame hu0⟩
    · obtain ⟨u', hu'⟩ := h.n0 j hj hn
      exact ⟨u', by rw [cOther (addr_ne (.inl (fun e => hjk (inj j k hn hk e.symm)))), hu']⟩

/-- The round is through: the need stands. -/
theorem N2.next (h : N2 W M n E at' K V vV vC k w) (hk : k < n) (hc : w.cell? ⟨E k, 8, none⟩ = some (.int .i64 (ndv V (at' k) (K k)))) (hr : w.ownsRow W.heap.size 3 1 vC V.length (cntRow V (cA at' K (k + 1)))) : N2 W M n E at' K V vV vC (k + 1) w := by
  refine ⟨h.os, h.tape, h.output, h.size, h.keep, h.box, h.rv, hr, h.c0, h.fz, ?_, fun j hj hn => h.n0 j (by omega) hn⟩
  intro j hj
  by_cases hjk : j = k
  · subst hjk; exact hc
  · exact h.n1 j (by omega)

theorem cntRow_get (V A : List Int) (i : Nat) (hi : i < V.length) : (cntRow V A)[i]? = some (.int .i64 ((A.count (V.getD i 0) : Nat) : Int)) := by
  simp [cntRow, hi]

theorem cntRow_add (V A : List Int) (i : Nat) (hi : i < V.length) (hV : V.Pairwise (· < ·)) : (cntRow V A).set i (.int .i64 ((A.count (V.getD i 0) : Nat) + 1 : Int)) = cntRow V (A ++ [V.getD i 0]) := by
  apply List.ext_getElem?
  intro j
  have hp := List.pairwise_iff_getElem.1 hV
  by_cases hj : j < V.length
  · by_cases hij : i = j
    · subst hij
      rw [List.getElem?_set_self (by simp [cntRow, hi]), cntRow_get _ _ _ hi]
      simp
    · rw [List.getElem?_set_ne hij, cntRow_get _ _ _ hj, cntRow_get _ _ _ hj]
      have hne : V.getD i 0 ≠ V.getD j 0 := by
        rw [List.getD_eq_getElem?_getD, List.getD_eq_getElem?_getD, List.getElem?_eq_getElem hi, List.getElem?_eq_getElem hj]
        simp only [Option.getD_some]
        rcases Nat.lt_or_gt_of_ne hij with h | h
        · have := hp i j hi hj h; omega
        · have := hp j i hj hi h; omega
      have hb : (V.getD i 0 == V.getD j 0) = false := by simpa using hne
      rw [List.count_append, List.count_singleton, hb]
      simp
  · rw [List.getElem?_eq_none (by simp [cntRow]; omega), List.getElem?_eq_none (by simp [cntRow]; omega)]

/-- The count goes up, and the round is through. -/
theorem N2.inc {g cap : Nat} (h : N2 W M n E at' K V vV (.slice (some ⟨g, 0, none⟩) V.length cap) k w) (hk : k < n) (hE : ∀ j, j < n → E j < W.heap.size) (hKk : K k = true) (hV : V.Pairwise (· < ·)) (i : Nat) (hi : i < V.length) (hx : V.getD i 0 = at' k)
    (hc : w.cell? ⟨E k, 8, none⟩ = some (.int .i64 (ndv V (at' k) (K k)))) :
    N2 W M n E at' K V vV (.slice (some ⟨g, 0, none⟩) V.length cap) (k + 1) (w.setCell ⟨g, i, none⟩ (.int .i64 (((cA at' K k).count (at' k) : Nat) + 1 : Int))) := by
  obtain ⟨hg1, hg2⟩ := h.rc.lt g rfl
  have hgM : g ≠ M := fun e => h.box.row_ne h.rc (by decide) (by rw [← e]; rfl)
  have hne : ∀ j, j < n → g ≠ E j := fun j hj e => by have := hE j hj; omega
  have hst := (h.rc.stored i (.int .i64 (((cA at' K k).count (at' k) : Nat) + 1 : Int))).1
  have hrow : (cntRow V (cA at' K k)).set i (.int .i64 (((cA at' K k).count (at' k) : Nat) + 1 : Int)) = cntRow V (cA at' K (k + 1)) := by
    have := cntRow_add V (cA at' K k) i hi hV
    rw [hx] at this
    rw [this]
    simp only [cA, if_pos hKk]
  rw [hrow] at hst
  have oth : ∀ j, j < n → ∀ o, (w.setCell ⟨g, i, none⟩ (.int .i64 (((cA at' K k).count (at' k) : Nat) + 1 : Int))).cell? ⟨E j, o, none⟩ = w.cell? ⟨E j, o, none⟩ := fun j hj o => cOther (addr_ne (.inl (hne j hj)))
  refine ⟨h.os, h.tape, h.output, by have := h.size; simpa using this, ?_, h.box.other _ _ (fun e => hgM e.symm), ?_, hst, ?_, ?_, ?_, ?_⟩
  · intro b hb hn
    rw [Below.heap_setCell _ _ _ _ (by show b ≠ g; omega)]
    exact h.keep b hb hn
  · refine ownsRow_setCell_other h.rv ?_ _
    rcases own_ne h.rc h.rv (by decide) with h1 | h1
    · rw [h1]; simp
    · exact h1
  · intro j hj o ho; rw [oth j hj]; exact h.c0 j hj o ho
  · intro j hj o; rw [World.frozen?_setCell]; exact h.fz j hj o
  · intro j hj
    rw [oth j (by omega)]
    by_cases hjk : j = k
    · subst hjk; exact hc
    · exact h.n1 j (by omega)
  · intro j hj hn
    rw [oth j hn]
    exact h.n0 j (by omega) hn

/-- The place of a member. -/
theorem idx_facts {V : List Int} (hV : V.Pairwise (· < ·)) {x : Int} (hx : x ∈ V) : V.countP (fun y => decide (y < x)) < V.length ∧ V.getD (V.countP (fun y => decide (y < x))) 0 = x := by
  obtain ⟨i, hi, e⟩ := List.getElem_of_mem hx
  have hp := List.pairwise_iff_getElem.1 hV
  have hc := Ls.count_at V (fun i j hij hj => by
    have := hp i j (by omega) hj hij
    simpa [List.getD, show i < V.length by omega, hj] using this) i hi
  have hg : V.getD i 0 = x := by simp [List.getD, hi, e]
  rw [hg] at hc
  rw [hc]
  exact ⟨hi, hg⟩

theorem N2.search {gv cp : Nat} (h : N2 W M n E at' K V (.slice (some ⟨gv, 0, none⟩) V.length cp) vC k w) (hV : V.Pairwise (· < ·)) (hl : V.length ≤ 100000) (x : Int) :
    Calls Try.prog 33 #[.slice (some ⟨gv, 0, none⟩) V.length cp, .int .i64 x] w fun e w' => ∃ (b : Bool) (q : Nat), e = .returned (.tuple #[.int .i64 ((V.countP (fun y => decide (y < x)) : Nat) : Int), .bool b]) ∧ w' = w.drewN q := by
  refine (bsI_any gv V.length cp V x w rfl hl ?_ (hV.imp (fun h => Int.le_of_lt h))).mono ?_
  · intro j hj
    rw [h.rv.cellAt j (by omega)]
    simp [List.getD, hj]
  · rintro e w' ⟨b, rfl, q, rfl⟩
    exact ⟨b, q, rfl, rfl⟩

end Go.Proofs.Qxb6601677a
