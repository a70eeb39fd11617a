/-
  The chain that list lays: what holds after k of its m adds.
-/
import Derived.Test.Qxb6601677aListSort
namespace Go.Proofs.Qxb6601677a
open Go.RowKit
set_option linter.unusedVariables false

theorem cOther {w : World} {a b : Addr} {v : Value} (h : a ≠ b) : (w.setCell a v).cell? b = w.cell? b := by apply World.cell?_setCell_other; exact h
theorem cSame {w : World} {a : Addr} {v : Value} {u : Value} (h : w.cell? a = some u) : (w.setCell a v).cell? a = some v := by apply World.cell?_setCell_same; exact h
theorem cAlloc {w : World} {a : Addr} {o : Obj} (h : a.block < w.heap.size) : (w.alloc o).cell? a = w.cell? a := by apply World.cell?_alloc_lt; exact h
theorem fAlloc {w : World} {a : Addr} {o : Obj} (h : a.block ≠ w.heap.size) : (w.alloc o).frozen? a = w.frozen? a := by apply World.frozen?_alloc_old; exact h

/-- After k adds: c 0 is the head, c 1 .. c m the blocks in their order, T the box of the tail; all else that W2 held is as it was. -/
structure LInv (W2 : World) (T m : Nat) (c : Nat → Nat) (k : Nat) (wx : World) : Prop where
  os : wx.os = W2.os
  tape : wx.tape = W2.tape
  output : wx.output = W2.output
  size : W2.heap.size ≤ wx.heap.size
  Tlt : T < wx.heap.size
  keep : ∀ b, b < W2.heap.size → (∀ i, i ≤ m → b ≠ c i) → wx.heap[b]? = W2.heap[b]?
  tl : wx.cell? ⟨T, 0, none⟩ = some (.pointer (some ⟨c k, 0, none⟩))
  nx1 : ∀ i, i < k → wx.cell? ⟨c i, 3, none⟩ = some (.pointer (some ⟨c (i + 1), 0, none⟩))
  nx0 : ∀ i, k ≤ i → i ≤ m → wx.cell? ⟨c i, 3, none⟩ = some (.pointer none)
  pv1 : ∀ i, i < k → wx.cell? ⟨c (i + 1), 2, none⟩ = some (.pointer (some ⟨c i, 0, none⟩))
  pv0 : ∀ i, k ≤ i → i < m → wx.cell? ⟨c (i + 1), 2, none⟩ = some (.pointer none)
  h2 : wx.cell? ⟨c 0, 2, none⟩ = some (.pointer none)
  fz : ∀ i, i ≤ m → ∀ o, wx.frozen? ⟨c i, o, none⟩ = false
  fT : wx.frozen? ⟨T, 0, none⟩ = false

variable {W2 : World} {T m : Nat} {c : Nat → Nat} {k : Nat} {w : World}

theorem LInv.alloc (h : LInv W2 T m c k w) (hk : k ≤ m) (o : Obj) : LInv W2 T m c k (w.alloc o) := by
  have lt : ∀ i, i ≤ m → c i < w.heap.size := by
    intro i hi
    rcases Nat.lt_or_ge i k with h1 | h1
    · exact World.block_lt_of_cell? w _ (h.nx1 i h1)
    · exact World.block_lt_of_cell? w _ (h.nx0 i h1 hi)
  have hc : ∀ i, i ≤ m → ∀ o', (w.alloc o).cell? ⟨c i, o', none⟩ = w.cell? ⟨c i, o', none⟩ := fun i hi o' => cAlloc (lt i hi)
  refine ⟨h.os, h.tape, h.output, by have := h.size; simp; omega, by have := h.Tlt; simp; omega, ?_, ?_, ?_, ?_, ?_, ?_, ?_, ?_, ?_⟩
  · intro b hb hn
    rw [Below.heap_alloc _ _ _ (by have := h.size; omega)]
    exact h.keep b hb hn
  · rw [cAlloc h.Tlt]; exact h.tl
  · intro i hi; rw [hc i (by omega)]; exact h.nx1 i hi
  · intro i hi hm; rw [hc i hm]; exact h.nx0 i hi hm
  · intro i hi; rw [hc (i + 1) (by omega)]; exact h.pv1 i hi
  · intro i hi hm; rw [hc (i + 1) (by omega)]; exact h.pv0 i hi hm
  · rw [hc 0 (by omega)]; exact h.h2
  · intro i hi o'
    rw [fAlloc (by have := lt i hi; show c i ≠ _; omega)]
    exact h.fz i hi o'
  · rw [fAlloc (by have := h.Tlt; show T ≠ _; omega)]
    exact h.fT

theorem LInv.drewN (h : LInv W2 T m c k w) (q : Nat) : LInv W2 T m c k (w.drewN q) :=
  ⟨h.os, h.tape, h.output, h.size, h.Tlt, h.keep, h.tl, h.nx1, h.nx0, h.pv1, h.pv0, h.h2, h.fz, h.fT⟩

theorem addr_ne {b b' o o' : Nat} (h : b ≠ b' ∨ o ≠ o') : (⟨b, o, none⟩ : Addr) ≠ ⟨b', o', none⟩ := by
  intro e
  injection e with e1 e2
  rcases h with h | h
  · exact h e1
  · exact h e2

theorem LInv.add (h : LInv W2 T m c k w) (hk : k < m) (inj : ∀ i j, i ≤ m → j ≤ m → c i = c j → i = j) (hT : ∀ i, i ≤ m → T ≠ c i) (hTge : W2.heap.size ≤ T) :
    LInv W2 T m c (k + 1) (((w.setCell ⟨c (k + 1), 2, none⟩ (.pointer (some ⟨c k, 0, none⟩))).setCell ⟨c k, 3, none⟩ (.pointer (some ⟨c (k + 1), 0, none⟩))).setCell ⟨T, 0, none⟩ (.pointer (some ⟨c (k + 1), 0, none⟩))) := by
  have hT1 := hT (k + 1) (by omega)
  have hT0 := hT k (by omega)
  have oth : ∀ b o, (b ≠ c (k + 1) ∨ o ≠ 2) → (b ≠ c k ∨ o ≠ 3) → b ≠ T → (((w.setCell ⟨c (k + 1), 2, none⟩ (.pointer (some ⟨c k, 0, none⟩))).setCell ⟨c k, 3, none⟩ (.pointer (some ⟨c (k + 1), 0, none⟩))).setCell ⟨T, 0, none⟩ (.pointer (some ⟨c (k + 1), 0, none⟩))).cell? ⟨b, o, none⟩ = w.cell? ⟨b, o, none⟩ := by
    intro b o h1 h2 h3
    rw [cOther (addr_ne (.inl fun e => h3 e.symm)), cOther (addr_ne (by rcases h2 with h | h; exact .inl fun e => h e.symm; exact .inr fun e => h e.symm)), cOther (addr_ne (by rcases h1 with h | h; exact .inl fun e => h e.symm; exact .inr fun e => h e.symm))]
  have e1 : (((w.setCell ⟨c (k + 1), 2, none⟩ (.pointer (some ⟨c k, 0, none⟩))).setCell ⟨c k, 3, none⟩ (.pointer (some ⟨c (k + 1), 0, none⟩))).setCell ⟨T, 0, none⟩ (.pointer (some ⟨c (k + 1), 0, none⟩))).cell? ⟨c (k + 1), 2, none⟩ = some (.pointer (some ⟨c k, 0, none⟩)) := by
    rw [cOther (addr_ne (.inl hT1)), cOther (addr_ne (.inr (by omega))), cSame (h.pv0 k (Nat.le_refl _) hk)]
  have e2 : (((w.setCell ⟨c (k + 1), 2, none⟩ (.pointer (some ⟨c k, 0, none⟩))).setCell ⟨c k, 3, none⟩ (.pointer (some ⟨c (k + 1), 0, none⟩))).setCell ⟨T, 0, none⟩ (.pointer (some ⟨c (k + 1), 0, none⟩))).cell? ⟨c k, 3, none⟩ = some (.pointer (some ⟨c (k + 1), 0, none⟩)) := by
    rw [cOther (addr_ne (.inl hT0)), cSame (u := .pointer none) (by rw [cOther (addr_ne (.inr (by omega)))]; exact h.nx0 k (Nat.le_refl _) (by omega))]
  have ne : ∀ i, i ≤ m → i ≠ k → c i ≠ c k := fun i hi hne e => hne (inj i k hi (by omega) e)
  have ne1 : ∀ i, i ≤ m → i ≠ k + 1 → c i ≠ c (k + 1) := fun i hi hne e => hne (inj i (k + 1) hi (by omega) e)
  refine ⟨h.os, h.tape, h.output, by have := h.size; simpa [World.setCell] using this, by have := h.Tlt; simpa [World.setCell] using this, ?_, ?_, ?_, ?_, ?_, ?_, ?_, ?_, ?_⟩
  · intro b hb hn
    rw [Below.heap_setCell _ _ _ _ (by show b ≠ T; omega), Below.heap_setCell _ _ _ _ (hn k (by omega)), Below.heap_setCell _ _ _ _ (hn (k + 1) (by omega))]
    exact h.keep b hb hn
  · refine cSame (u := .pointer (some ⟨c k, 0, none⟩)) ?_
    rw [cOther (addr_ne (.inl hT0.symm)), cOther (addr_ne (.inl hT1.symm))]
    exact h.tl
  · intro i hi
    by_cases hik : i = k
    · subst hik; exact e2
    · rw [oth _ _ (.inr (by omega)) (.inl (ne i (by omega) hik)) (hT i (by omega)).symm]
      exact h.nx1 i (by omega)
  · intro i hi hm
    rw [oth _ _ (.inr (by omega)) (.inl (ne i hm (by omega))) (hT i hm).symm]
    exact h.nx0 i (by omega) hm
  · intro i hi
    by_cases hik : i = k
    · subst hik; exact e1
    · rw [oth _ _ (.inl (ne1 (i + 1) (by omega) (by omega))) (.inr (by omega)) (hT _ (by omega)).symm]
      exact h.pv1 i (by omega)
  · intro i hi hm
    rw [oth _ _ (.inl (ne1 (i + 1) (by omega) (by omega))) (.inr (by omega)) (hT _ (by omega)).symm]
    exact h.pv0 i (by omega) hm
  · rw [oth _ _ (.inl (ne1 0 (by omega) (by omega))) (.inr (by omega)) (hT _ (by omega)).symm]
    exact h.h2
  · intro i hi o
    simpa using h.fz i hi o
  · simpa using h.fT

/-- A row of the call's own, made ahead of the chain, is as it was. -/
theorem LInv.row (h : LInv W2 T m c k w) {base : Nat} {e : TypeId} {size : Nat} {v : Value} {n : Nat} {xs : List Value} (hv : W2.ownsRow base e size v n xs) (hn : ∀ i, i ≤ m → v.ownBlock ≠ some (c i)) : w.ownsRow base e size v n xs := by
  refine ⟨hv.1, ?_⟩
  rcases hv.2 with hx | ⟨g, cap, cur, rfl, hb, hg, rest⟩
  · exact .inl hx
  · refine .inr ⟨g, cap, cur, rfl, hb, ?_, rest⟩
    rw [h.keep g (Array.getElem?_eq_some_iff.1 hg).1 (fun i hi e => hn i hi (by rw [← e]; rfl))]
    exact hg

/-- The chain: the head, then XS. -/
def chn (H : Nat) (XS : List Nat) (i : Nat) : Nat := if i = 0 then H else XS.getD (i - 1) 0

/-- What list leaves. -/
def ListPost (W : World) (Bs n : Nat) (cs rs : List Int) (e : Ending) (w : World) : Prop :=
  ∃ (H T : Nat) (L : List (Nat × Nat)) (W2 : World), e = .returned (.pointer (some ⟨H, 0, none⟩)) ∧ W.heap.size ≤ H ∧ H < w.heap.size ∧ L.Perm (Ls.pos Bs cs rs n) ∧ (∀ i j, i < j → j < L.length → L[i]!.1 ≤ L[j]!.1) ∧ Below W.heap.size W W2 ∧
    LInv W2 T (2 * n) (chn H (L.map (·.2) ++ Ls.opn Bs rs n)) (2 * n) w

/-- A row's value, opened. -/
theorem own_slice {w : World} {base : Nat} {e : TypeId} {size : Nat} {v : Value} {n : Nat} {xs : List Value} (h : w.ownsRow base e size v n xs) : ∃ ao cap, v = .slice ao n cap ∧ n ≤ cap ∧ (0 < n → ∃ g, ao = some ⟨g, 0, none⟩ ∧ base ≤ g ∧ g < w.heap.size) := by
  rcases h.2 with ⟨rfl, rfl⟩ | ⟨g, cap, cur, rfl, hb, hg, h1, _⟩
  · exact ⟨none, 0, rfl, Nat.le_refl _, fun h => absurd h (by omega)⟩
  · exact ⟨_, cap, rfl, h1, fun _ => ⟨g, rfl, hb, (Array.getElem?_eq_some_iff.1 hg).1⟩⟩

/-- The cells of a row of positions. -/
theorem flat_cell {w : World} {base g cap : Nat} {L : List (Nat × Nat)} (h : w.ownsRow base 71 2 (.slice (some ⟨g, 0, none⟩) L.length cap) L.length (flat L)) (k : Nat) (hk : k < L.length) :
    w.cell? ⟨g, k * 2, none⟩ = some (.int .i64 ((L[k]!).1 : Int)) ∧ w.cell? ⟨g, k * 2 + 1, none⟩ = some (.pointer (some ⟨(L[k]!).2, 0, none⟩)) := by
  have hf : ∀ (L : List (Nat × Nat)) k, k < L.length → (flat L)[k * 2]? = some (.int .i64 ((L[k]!).1 : Int)) ∧ (flat L)[k * 2 + 1]? = some (.pointer (some ⟨(L[k]!).2, 0, none⟩)) := by
    intro L
    induction L with
    | nil => intro k hk; simp at hk
    | cons x L ih =>
      intro k hk
      match k, hk with
      | 0, _ => exact ⟨rfl, rfl⟩
      | k + 1, hk =>
        have := ih k (by simpa using hk)
        have e1 : (k + 1) * 2 = k * 2 + 1 + 1 := by omega
        rw [e1]
        simpa [flat] using this
  rcases h.2 with ⟨h0, _⟩ | ⟨g', cap', cur, hv, hb, hg, h1, h2, h3, h4⟩
  · cases h0
  · cases hv
    have key : ∀ j, j < L.length * 2 → w.cell? ⟨g, j, none⟩ = (flat L)[j]? := by
      intro j hj
      rw [← h4, List.getElem?_take_of_lt hj]
      simp [World.cell?, hg]
    rw [key _ (by omega), key _ (by omega)]
    exact hf L k hk

/-- The cells of a row of pointers. -/
theorem ptr_cell {w : World} {base g cap : Nat} {L : List Nat} (h : w.ownsRow base 23 1 (.slice (some ⟨g, 0, none⟩) L.length cap) L.length (L.map fun b => .pointer (some ⟨b, 0, none⟩))) (k : Nat) (hk : k < L.length) :
    w.cell? ⟨g, k, none⟩ = some (.pointer (some ⟨L[k]!, 0, none⟩)) := by
  rcases h.2 with ⟨h0, _⟩ | ⟨g', cap', cur, hv, hb, hg, h1, h2, h3, h4⟩
  · cases h0
  · cases hv
    have : w.cell? ⟨g, k, none⟩ = (L.map fun b => Value.pointer (some ⟨b, 0, none⟩))[k]? := by
      rw [← h4, List.getElem?_take_of_lt (by omega)]
      simp [World.cell?, hg]
    rw [this]
    simp [hk]

end Go.Proofs.Qxb6601677a
