/-
  Plain: the places of the lines in the sorted row. No Go in sight.
-/
namespace Go.Proofs.Qxb6601677a.Ls

/-- The blocks of the j-th invocation and of its end, the first block being Bs. -/
def E (Bs j : Nat) : Nat := Bs + 3 * j + 2
def N (Bs j : Nat) : Nat := Bs + 3 * j + 1

/-- The definite lines, in the order in which they are met. -/
def psL (cs rs : List Int) : Nat → List Int
  | 0 => []
  | k + 1 => psL cs rs k ++ (cs.getD k 0 :: if 0 ≤ rs.getD k 0 then [rs.getD k 0] else [])

/-- The same with the block that stands there. -/
def pos (Bs : Nat) (cs rs : List Int) : Nat → List (Nat × Nat)
  | 0 => []
  | k + 1 => pos Bs cs rs k ++ (((cs.getD k 0).toNat, E Bs k) :: if 0 ≤ rs.getD k 0 then [((rs.getD k 0).toNat, N Bs k)] else [])

/-- The open ends. -/
def opn (Bs : Nat) (rs : List Int) : Nat → List Nat
  | 0 => []
  | k + 1 => opn Bs rs k ++ if 0 ≤ rs.getD k 0 then [] else [N Bs k]

theorem lens (Bs : Nat) (cs rs : List Int) (k : Nat) : (pos Bs cs rs k).length + (opn Bs rs k).length = 2 * k := by
  induction k with
  | zero => rfl
  | succ k ih =>
    simp only [pos, opn, List.length_append, List.length_cons]
    split <;> simp <;> omega

theorem len_ps (Bs : Nat) (cs rs : List Int) (k : Nat) : (psL cs rs k).length = (pos Bs cs rs k).length := by
  induction k with
  | zero => rfl
  | succ k ih =>
    simp only [pos, psL, List.length_append, List.length_cons, ih]
    split <;> simp

theorem ps_eq (Bs : Nat) (cs rs : List Int) (k : Nat) (hc : ∀ j, j < k → 0 ≤ cs.getD j 0) : psL cs rs k = (pos Bs cs rs k).map fun x => (x.1 : Int) := by
  induction k with
  | zero => rfl
  | succ k ih =>
    have h0 := hc k (by omega)
    simp only [pos, psL, List.map_append, List.map_cons, ← ih (fun j hj => hc j (by omega))]
    congr 1
    split
    · rename_i h
      simp only [List.map_cons, List.map_nil]
      rw [Int.toNat_of_nonneg h0, Int.toNat_of_nonneg h]
    · simp only [List.map_nil]
      rw [Int.toNat_of_nonneg h0]

/-- All blocks that stand in the row or among the open ends, of the first k operations. -/
def blks (Bs : Nat) (cs rs : List Int) (k : Nat) : List Nat := (pos Bs cs rs k).map (·.2) ++ opn Bs rs k

theorem blks_mem (Bs : Nat) (cs rs : List Int) (k b : Nat) : b ∈ blks Bs cs rs k ↔ ∃ j, j < k ∧ (b = E Bs j ∨ b = N Bs j) := by
  induction k with
  | zero => simp [blks, pos, opn]
  | succ k ih =>
    have key : b ∈ blks Bs cs rs (k + 1) ↔ b ∈ blks Bs cs rs k ∨ b = E Bs k ∨ b = N Bs k := by
      simp only [blks, pos, opn, List.map_append, List.map_cons, List.mem_append, List.mem_cons]
      generalize (b ∈ List.map (fun x => x.snd) (pos Bs cs rs k)) = A
      generalize (b ∈ opn Bs rs k) = O
      split
      · simp only [List.map_cons, List.map_nil, List.mem_cons, List.not_mem_nil, or_false]
        constructor
        · rintro ((h | h | h) | h)
          · exact .inl (.inl h)
          · exact .inr (.inl h)
          · exact .inr (.inr h)
          · exact .inl (.inr h)
        · rintro ((h | h) | h | h)
          · exact .inl (.inl h)
          · exact .inr h
          · exact .inl (.inr (.inl h))
          · exact .inl (.inr (.inr h))
      · simp only [List.map_nil, List.mem_cons, List.not_mem_nil, or_false]
        constructor
        · rintro ((h | h) | (h | h))
          · exact .inl (.inl h)
          · exact .inr (.inl h)
          · exact .inl (.inr h)
          · exact .inr (.inr h)
        · rintro ((h | h) | h | h)
          · exact .inl (.inl h)
          · exact .inr (.inl h)
          · exact .inl (.inr h)
          · exact .inr (.inr h)
    rw [key, ih]
    constructor
    · rintro (⟨j, hj, h⟩ | h)
      · exact ⟨j, by omega, h⟩
      · exact ⟨k, by omega, h⟩
    · rintro ⟨j, hj, h⟩
      by_cases hjk : j = k
      · subst hjk; exact .inr h
      · exact .inl ⟨j, by omega, h⟩


theorem nodup_step {l r : List Nat} {x : Nat} (h : (l ++ r).Nodup) (hx : x ∉ l ++ r) : (l ++ [x] ++ r).Nodup := by
  have : (l ++ [x] ++ r).Perm (x :: (l ++ r)) := by
    rw [List.append_assoc]
    exact List.perm_middle
  exact (this.nodup_iff).2 (List.nodup_cons.2 ⟨hx, h⟩)

theorem blks_nodup (Bs : Nat) (cs rs : List Int) (k : Nat) : (blks Bs cs rs k).Nodup := by
  induction k with
  | zero => simp [blks, pos, opn]
  | succ k ih =>
    have hE : E Bs k ∉ blks Bs cs rs k := by
      rw [blks_mem]
      rintro ⟨j, hj, h | h⟩ <;> simp [E, N] at h <;> omega
    have hN : N Bs k ∉ blks Bs cs rs k := by
      rw [blks_mem]
      rintro ⟨j, hj, h | h⟩ <;> simp [E, N] at h <;> omega
    have hEN : N Bs k ≠ E Bs k := by simp [E, N]
    unfold blks at *
    simp only [pos, opn]
    split
    · rw [List.append_nil, List.map_append]
      have h1 := nodup_step ih hE
      have h2 := nodup_step (l := (pos Bs cs rs k).map (·.2) ++ [E Bs k]) (x := N Bs k) h1 (by
        intro hm
        rcases List.mem_append.1 hm with hm | hm
        · rcases List.mem_append.1 hm with hm | hm
          · exact hN (List.mem_append.2 (.inl hm))
          · simp at hm; exact hEN hm
        · exact hN (List.mem_append.2 (.inr hm)))
      simpa using h2
    · rw [List.map_append]
      have h1 := nodup_step ih hE
      have h2 : ((pos Bs cs rs k).map (·.2) ++ [E Bs k] ++ opn Bs rs k ++ [N Bs k]).Nodup := by
        refine (List.nodup_append.2 ⟨h1, by simp, ?_⟩)
        intro a ha b hb
        simp at hb
        subst hb
        intro e
        subst e
        rcases List.mem_append.1 ha with hm | hm
        · rcases List.mem_append.1 hm with hm | hm
          · exact hN (List.mem_append.2 (.inl hm))
          · simp at hm; exact hEN hm
        · exact hN (List.mem_append.2 (.inr hm))
      simpa using h2

/-! ### a strictly ascending list: the number of smaller ones is the place -/
theorem count_at (L : List Int) (hs : ∀ i j, i < j → j < L.length → L.getD i 0 < L.getD j 0) (i : Nat) (hi : i < L.length) : L.countP (fun y => decide (y < L.getD i 0)) = i := by
  have h1 : L = L.take i ++ L.drop i := (List.take_append_drop i L).symm
  have e1 : (L.take i).countP (fun y => decide (y < L.getD i 0)) = i := by
    rw [List.countP_eq_length.2 ?_]
    · simp; omega
    · intro y hy
      obtain ⟨j, hj, rfl⟩ := List.getElem_of_mem hy
      simp only [List.length_take] at hj
      have := hs j i (by omega) hi
      simp only [List.getElem_take]
      simpa [show j < L.length by omega, hi] using this
  have e2 : (L.drop i).countP (fun y => decide (y < L.getD i 0)) = 0 := by
    rw [List.countP_eq_zero]
    intro y hy
    obtain ⟨j, hj, rfl⟩ := List.getElem_of_mem hy
    simp only [List.length_drop] at hj
    simp only [List.getElem_drop]
    have h3 : i + j < L.length := by omega
    by_cases hj0 : j = 0
    · subst hj0; simp [hi]
    · have := hs i (i + j) (by omega) h3
      simp [h3, hi] at this
      simp [hi]
      omega
  have e3 : L.countP (fun y => decide (y < L.getD i 0)) = (L.take i ++ L.drop i).countP (fun y => decide (y < L.getD i 0)) := by rw [← h1]
  rw [e3, List.countP_append, e1, e2]
  omega

#print axioms count_at
#print axioms blks_nodup
end Go.Proofs.Qxb6601677a.Ls
