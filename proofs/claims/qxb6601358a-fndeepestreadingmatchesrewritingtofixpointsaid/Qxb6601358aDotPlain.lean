/-
  The plain law of holdsDotPart against the splitting model: no Go in sight.
-/
namespace Go.Proofs.Qxb6601358a.Dot

/-- holdsDotPart on what is left of the text, from the state (dots, other, params). -/
def hdp : List Int → Nat → Bool → Bool → Bool
  | [], d, o, _ => decide (0 < d) && !o
  | c :: r, d, o, p =>
    if c = 47 ∨ c = 92 then (if decide (0 < d) && !o then true else hdp r 0 false false)
    else if p then hdp r d o p
    else if c = 59 then hdp r d o true
    else if c = 46 then hdp r (d + 1) o p
    else hdp r d true p

theorem hdp_nil (d : Nat) (o p : Bool) : hdp [] d o p = (decide (0 < d) && !o) := rfl
theorem hdp_sep (c : Int) (r : List Int) (d : Nat) (o p : Bool) (h : c = 47 ∨ c = 92) : hdp (c :: r) d o p = (if decide (0 < d) && !o then true else hdp r 0 false false) := by
  rw [hdp, if_pos h]
theorem hdp_par (c : Int) (r : List Int) (d : Nat) (o : Bool) (h : ¬ (c = 47 ∨ c = 92)) : hdp (c :: r) d o true = hdp r d o true := by
  rw [hdp, if_neg h, if_pos rfl]
theorem hdp_semi (c : Int) (r : List Int) (d : Nat) (o : Bool) (h : c = 59) : hdp (c :: r) d o false = hdp r d o true := by
  subst h; rw [hdp, if_neg (by omega), if_neg (by simp), if_pos rfl]
theorem hdp_dot (c : Int) (r : List Int) (d : Nat) (o : Bool) (h : c = 46) : hdp (c :: r) d o false = hdp r (d + 1) o false := by
  subst h; rw [hdp, if_neg (by omega), if_neg (by simp), if_neg (by omega), if_pos rfl]
theorem hdp_other (c : Int) (r : List Int) (d : Nat) (o : Bool) (h : ¬ (c = 47 ∨ c = 92)) (h1 : c ≠ 59) (h2 : c ≠ 46) : hdp (c :: r) d o false = hdp r d true false := by
  rw [hdp, if_neg h, if_neg (by simp), if_neg h1, if_neg h2]

/-- The rest of the text from index k on: the answer of what is left; false behind the end. -/
def rest (zs : List Int) (k : Nat) : Bool := if k ≤ zs.length then hdp (zs.drop k) 0 false false else false

theorem rest_in (zs : List Int) (k : Nat) (h : k ≤ zs.length) : rest zs k = hdp (zs.drop k) 0 false false := if_pos h
theorem rest_out (zs : List Int) (k : Nat) (h : zs.length < k) : rest zs k = false := if_neg (by omega)

theorem drop_cons (zs : List Int) (k : Nat) (h : k < zs.length) : zs.drop k = zs.getD k 0 :: zs.drop (k + 1) := by
  rw [List.drop_eq_getElem_cons h]
  simp [h]

/-- From k to e: no separator; params is set: nothing turns. -/
theorem run_par (zs : List Int) (d : Nat) (o : Bool) : ∀ (m k : Nat), k + m ≤ zs.length → (∀ j, k ≤ j → j < k + m → ¬ (zs.getD j 0 = 47 ∨ zs.getD j 0 = 92)) →
    hdp (zs.drop k) d o true = hdp (zs.drop (k + m)) d o true
  | 0, k, _, _ => by simp
  | m + 1, k, hl, h => by
    rw [drop_cons zs k (by omega), hdp_par _ _ _ _ (h k (Nat.le_refl _) (by omega))]
    have := run_par zs d o m (k + 1) (by omega) (fun j h1 h2 => h j (by omega) (by omega))
    rw [this, show k + 1 + m = k + (m + 1) from by omega]

/-- From k to h: neither separator nor semicolon: the dots are counted, or 'other' is set. -/
theorem run_head (zs : List Int) : ∀ (m k d : Nat) (o : Bool), k + m ≤ zs.length → (∀ j, k ≤ j → j < k + m → ¬ (zs.getD j 0 = 47 ∨ zs.getD j 0 = 92) ∧ zs.getD j 0 ≠ 59) →
    ∃ d' o', hdp (zs.drop k) d o false = hdp (zs.drop (k + m)) d' o' false ∧ d ≤ d' ∧ (o' = true ↔ o = true ∨ ∃ j, k ≤ j ∧ j < k + m ∧ zs.getD j 0 ≠ 46) ∧ (o' = false → d' = d + m)
  | 0, k, d, o, _, _ => ⟨d, o, by simp, Nat.le_refl _, by constructor <;> intro h; exact .inl h; rcases h with h | ⟨j, h1, h2, _⟩; exact h; omega, by intro _; omega⟩
  | m + 1, k, d, o, hl, h => by
    obtain ⟨hs, h59⟩ := h k (Nat.le_refl _) (by omega)
    have hrec := fun j (h1 : k + 1 ≤ j) (h2 : j < k + 1 + m) => h j (by omega) (by omega)
    have e : k + 1 + m = k + (m + 1) := by omega
    by_cases h46 : zs.getD k 0 = 46
    · obtain ⟨d', o', r1, r2, r3, r4⟩ := run_head zs m (k + 1) (d + 1) o (by omega) hrec
      refine ⟨d', o', ?_, by omega, ?_, fun ho => by have := r4 ho; omega⟩
      · rw [drop_cons zs k (by omega), hdp_dot _ _ _ _ h46, r1, e]
      · rw [r3]
        constructor
        · rintro (ho | ⟨j, h1, h2, h3⟩)
          · exact .inl ho
          · exact .inr ⟨j, by omega, by omega, h3⟩
        · rintro (ho | ⟨j, h1, h2, h3⟩)
          · exact .inl ho
          · refine .inr ⟨j, ?_, by omega, h3⟩
            by_cases hj : j = k
            · subst hj; exact absurd h46 h3
            · omega
    · obtain ⟨d', o', r1, r2, r3, r4⟩ := run_head zs m (k + 1) d true (by omega) hrec
      have ho : o' = true := r3.2 (.inl rfl)
      refine ⟨d', o', ?_, r2, ?_, fun h => by rw [ho] at h; cases h⟩
      · rw [drop_cons zs k (by omega), hdp_other _ _ _ _ hs h59 h46, r1, e]
      · rw [ho]; simp only [true_iff]
        exact .inr ⟨k, Nat.le_refl _, by omega, h46⟩

/-- One part of the text: it begins at s, its head ends at h, the part ends at e. -/
theorem part (zs : List Int) (s h e : Nat) (hsh : s ≤ h) (hhe : h ≤ e) (hel : e ≤ zs.length)
    (nosep : ∀ j, s ≤ j → j < e → ¬ (zs.getD j 0 = 47 ∨ zs.getD j 0 = 92))
    (sep : e < zs.length → zs.getD e 0 = 47 ∨ zs.getD e 0 = 92)
    (nosemi : ∀ j, s ≤ j → j < h → zs.getD j 0 ≠ 59)
    (semi : h < e → zs.getD h 0 = 59) :
    rest zs s = true ∧ (s < h ∧ ∀ j, s ≤ j → j < h → zs.getD j 0 = 46) ∨
    rest zs s = rest zs (e + 1) ∧ ¬ (s < h ∧ ∀ j, s ≤ j → j < h → zs.getD j 0 = 46) := by
  obtain ⟨d', o', r1, r2, r3, r4⟩ := run_head zs (h - s) s 0 false (by omega) (fun j h1 h2 => ⟨nosep j h1 (by omega), nosemi j h1 (by omega)⟩)
  rw [show s + (h - s) = h from by omega] at r1 r3
  -- from the head's end to the part's end
  have r5 : ∃ p', hdp (zs.drop h) d' o' false = hdp (zs.drop e) d' o' p' := by
    by_cases hlt : h < e
    · refine ⟨true, ?_⟩
      rw [drop_cons zs h (by omega), hdp_semi _ _ _ _ (semi hlt)]
      have := run_par zs d' o' (e - (h + 1)) (h + 1) (by omega) (fun j h1 h2 => nosep j (by omega) (by omega))
      rw [this, show h + 1 + (e - (h + 1)) = e from by omega]
    · obtain rfl : h = e := by omega
      exact ⟨false, rfl⟩
  obtain ⟨p', r5⟩ := r5
  -- at the part's end
  have r6 : hdp (zs.drop e) d' o' p' = (if decide (0 < d') && !o' then true else rest zs (e + 1)) := by
    by_cases hlt : e < zs.length
    · rw [drop_cons zs e hlt, hdp_sep _ _ _ _ _ (sep hlt), rest_in _ _ (by omega)]
    · obtain rfl : e = zs.length := by omega
      rw [List.drop_length, hdp_nil, rest_out _ _ (by omega)]
      cases (decide (0 < d') && !o') <;> rfl
  have r7 : rest zs s = (if decide (0 < d') && !o' then true else rest zs (e + 1)) := by
    rw [rest_in _ _ (by omega), r1, r5, r6]
  have key : (decide (0 < d') && !o') = true ↔ (s < h ∧ ∀ j, s ≤ j → j < h → zs.getD j 0 = 46) := by
    simp only [Bool.and_eq_true, decide_eq_true_eq, Bool.not_eq_true']
    constructor
    · rintro ⟨h1, h2⟩
      have := r4 h2
      refine ⟨by omega, fun j a b => ?_⟩
      by_cases hj : zs.getD j 0 = 46
      · exact hj
      · have := r3.2 (.inr ⟨j, a, b, hj⟩)
        rw [h2] at this; cases this
    · rintro ⟨h1, h2⟩
      have ho : o' = false := by
        cases ho : o' with
        | false => rfl
        | true =>
          rcases r3.1 ho with h | ⟨j, a, b, hj⟩
          · cases h
          · exact absurd (h2 j a b) hj
      have := r4 ho
      exact ⟨by omega, ho⟩
  by_cases hk : (decide (0 < d') && !o') = true
  · exact .inl ⟨by rw [r7, if_pos hk], key.1 hk⟩
  · exact .inr ⟨by rw [r7, if_neg hk], fun h => hk (key.2 h)⟩

#print axioms part
end Go.Proofs.Qxb6601358a.Dot
