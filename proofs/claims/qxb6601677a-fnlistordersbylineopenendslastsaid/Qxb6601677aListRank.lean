/-
  Plain: where a line stands in the chain.
-/
import Derived.Test.Qxb6601677aListMini2
namespace Go.Proofs.Qxb6601677a
set_option linter.unusedVariables false

/-- In a row sorted by its keys, all different, the place of a pair is the number of the smaller keys. -/
theorem rank_pair {Bs n : Nat} {cs rs : List Int} {L : List (Nat × Nat)} (hc : ∀ j, j < n → 0 ≤ cs.getD j 0) (hp : L.Perm (Ls.pos Bs cs rs n)) (hs : ∀ i j, i < j → j < L.length → L[i]!.1 ≤ L[j]!.1)
    (hd : Dist (Ls.psL cs rs n) (Ls.psL cs rs n).length (Ls.psL cs rs n).length) (x b : Nat) (hx : (x, b) ∈ Ls.pos Bs cs rs n) :
    (Ls.psL cs rs n).countP (fun y => decide (y < (x : Int))) < L.length ∧ (L[(Ls.psL cs rs n).countP (fun y => decide (y < (x : Int)))]!).2 = b := by
  have hps := Ls.ps_eq Bs cs rs n hc
  have hK : (L.map fun x => (x.1 : Int)).Perm (Ls.psL cs rs n) := by rw [hps]; exact hp.map _
  have hnd : (Ls.psL cs rs n).Nodup := by
    rw [List.nodup_iff_pairwise_ne, List.pairwise_iff_getElem]
    intro i j hi hj hij
    have := hd i j hi hij hj
    simpa [List.getD, hi, hj] using this
  have hndK : (L.map fun x => (x.1 : Int)).Nodup := hK.nodup_iff.2 hnd
  obtain ⟨i, hi, hLi⟩ := List.getElem_of_mem (hp.mem_iff.2 hx)
  have hlen : (L.map fun x => (x.1 : Int)).length = L.length := by simp
  have hget : ∀ i, i < L.length → (L.map fun x => (x.1 : Int)).getD i 0 = (L[i]!.1 : Int) := by
    intro i hi
    simp [List.getD, hi]
  have hst : ∀ i j, i < j → j < (L.map fun x => (x.1 : Int)).length → (L.map fun x => (x.1 : Int)).getD i 0 < (L.map fun x => (x.1 : Int)).getD j 0 := by
    intro i j hij hj
    rw [hlen] at hj
    have h1 := hs i j hij hj
    rw [List.nodup_iff_pairwise_ne, List.pairwise_iff_getElem] at hndK
    have h2 := hndK i j (by rw [hlen]; omega) (by rw [hlen]; omega) hij
    rw [hget i (by omega), hget j hj]
    have e1 : (L[i]!.1 : Int) = (L.map fun x => (x.1 : Int))[i]'(by rw [hlen]; omega) := by simp [show i < L.length by omega]
    have e2 : (L[j]!.1 : Int) = (L.map fun x => (x.1 : Int))[j]'(by rw [hlen]; omega) := by simp [hj]
    have h3 : (L[i]!.1 : Int) ≠ (L[j]!.1 : Int) := by rw [e1, e2]; exact h2
    omega
  have hcount := Ls.count_at _ hst i (by rw [hlen]; exact hi)
  have hxi : (L.map fun x => (x.1 : Int)).getD i 0 = (x : Int) := by
    rw [hget i hi]
    simp [hi, hLi]
  rw [hxi] at hcount
  have hcp : (Ls.psL cs rs n).countP (fun y => decide (y < (x : Int))) = i := by rw [← hK.countP_eq]; exact hcount
  rw [hcp]
  refine ⟨hi, ?_⟩
  simp [hi, hLi]

theorem pos_call (Bs : Nat) (cs rs : List Int) (n j : Nat) (hj : j < n) : ((cs.getD j 0).toNat, Ls.E Bs j) ∈ Ls.pos Bs cs rs n := by
  induction n with
  | zero => omega
  | succ n ih =>
    simp only [Ls.pos, List.mem_append, List.mem_cons]
    by_cases h : j = n
    · subst h; exact .inr (.inl rfl)
    · exact .inl (ih (by omega))

theorem pos_ret (Bs : Nat) (cs rs : List Int) (n j : Nat) (hj : j < n) (hr : 0 ≤ rs.getD j 0) : ((rs.getD j 0).toNat, Ls.N Bs j) ∈ Ls.pos Bs cs rs n := by
  induction n with
  | zero => omega
  | succ n ih =>
    simp only [Ls.pos, List.mem_append, List.mem_cons]
    by_cases h : j = n
    · subst h; rw [if_pos hr]; exact .inr (.inr (by simp))
    · exact .inl (ih (by omega))

theorem opn_at (Bs : Nat) (rs : List Int) (n j : Nat) (hj : j < n) (hr : ¬ 0 ≤ rs.getD j 0) : (Ls.opn Bs rs j).length < (Ls.opn Bs rs n).length ∧ (Ls.opn Bs rs n)[(Ls.opn Bs rs j).length]! = Ls.N Bs j := by
  induction n with
  | zero => omega
  | succ n ih =>
    by_cases h : j = n
    · subst h
      simp only [Ls.opn, if_neg hr]
      simp
    · obtain ⟨h1, h2⟩ := ih (by omega)
      simp only [Ls.opn, List.length_append]
      refine ⟨by omega, ?_⟩
      rw [getElem!_pos (Ls.opn Bs rs n) (Ls.opn Bs rs j).length h1] at h2
      rw [getElem!_pos (Ls.opn Bs rs n ++ _) (Ls.opn Bs rs j).length (by rw [List.length_append]; omega), List.getElem_append_left h1]
      exact h2

/-- THE PLAIN LAW of the definite lines: the chain at 1 + rank is the block. -/
theorem chain_rank {Bs n H : Nat} {cs rs : List Int} {L : List (Nat × Nat)} (hc : ∀ j, j < n → 0 ≤ cs.getD j 0) (hp : L.Perm (Ls.pos Bs cs rs n)) (hs : ∀ i j, i < j → j < L.length → L[i]!.1 ≤ L[j]!.1)
    (hd : Dist (Ls.psL cs rs n) (Ls.psL cs rs n).length (Ls.psL cs rs n).length) (j : Nat) (hj : j < n) :
    (Ls.psL cs rs n).countP (fun y => decide (y < cs.getD j 0)) < 2 * n ∧ chn H (L.map (·.2) ++ Ls.opn Bs rs n) ((Ls.psL cs rs n).countP (fun y => decide (y < cs.getD j 0)) + 1) = Ls.E Bs j ∧
    (0 ≤ rs.getD j 0 → (Ls.psL cs rs n).countP (fun y => decide (y < rs.getD j 0)) < 2 * n ∧ chn H (L.map (·.2) ++ Ls.opn Bs rs n) ((Ls.psL cs rs n).countP (fun y => decide (y < rs.getD j 0)) + 1) = Ls.N Bs j) ∧
    (¬ 0 ≤ rs.getD j 0 → (Ls.psL cs rs n).length + (Ls.opn Bs rs j).length < 2 * n ∧ chn H (L.map (·.2) ++ Ls.opn Bs rs n) ((Ls.psL cs rs n).length + (Ls.opn Bs rs j).length + 1) = Ls.N Bs j) := by
  have hl := xs_len hp
  have hlens := Ls.lens Bs cs rs n
  have hpl := hp.length_eq
  have hq := Ls.len_ps Bs cs rs n
  obtain ⟨a1, a2⟩ := rank_pair hc hp hs hd _ _ (pos_call Bs cs rs n j hj)
  rw [Int.toNat_of_nonneg (hc j hj)] at a1 a2
  refine ⟨by omega, ?_, ?_, ?_⟩
  · rw [chn_first L _ a1]; exact a2
  · intro hr
    obtain ⟨b1, b2⟩ := rank_pair hc hp hs hd _ _ (pos_ret Bs cs rs n j hj hr)
    rw [Int.toNat_of_nonneg hr] at b1 b2
    exact ⟨by omega, by rw [chn_first L _ b1]; exact b2⟩
  · intro hr
    obtain ⟨b1, b2⟩ := opn_at Bs rs n j hj hr
    refine ⟨by omega, ?_⟩
    rw [hq, ← hpl, chn_last L _ b1]
    exact b2

end Go.Proofs.Qxb6601677a
