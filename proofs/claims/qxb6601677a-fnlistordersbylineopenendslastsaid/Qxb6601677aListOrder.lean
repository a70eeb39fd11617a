/-
  The chain's blocks: where they lie, that they differ; the chain ahead of the first add.
-/
import Derived.Test.Qxb6601677aListChain
namespace Go.Proofs.Qxb6601677a
open Go.RowKit
set_option linter.unusedVariables false

theorem hid {p : Prop} (h : p) : Hid p := h

theorem xs_perm {Bs n : Nat} {cs rs : List Int} {L : List (Nat × Nat)} (h : L.Perm (Ls.pos Bs cs rs n)) : (L.map (·.2) ++ Ls.opn Bs rs n).Perm (Ls.blks Bs cs rs n) :=
  (h.map _).append (.refl _)

theorem xs_len {Bs n : Nat} {cs rs : List Int} {L : List (Nat × Nat)} (h : L.Perm (Ls.pos Bs cs rs n)) : (L.map (·.2) ++ Ls.opn Bs rs n).length = 2 * n := by
  have := Ls.lens Bs cs rs n
  have := h.length_eq
  simp; omega

theorem chn_mem {Bs n H : Nat} {cs rs : List Int} {L : List (Nat × Nat)} (h : L.Perm (Ls.pos Bs cs rs n)) (i : Nat) (h1 : 1 ≤ i) (h2 : i ≤ 2 * n) : ∃ j, j < n ∧ (chn H (L.map (·.2) ++ Ls.opn Bs rs n) i = Ls.E Bs j ∨ chn H (L.map (·.2) ++ Ls.opn Bs rs n) i = Ls.N Bs j) := by
  rw [← Ls.blks_mem Bs cs rs n]
  refine (xs_perm h).mem_iff.1 ?_
  have hl := xs_len h
  unfold chn
  rw [if_neg (by omega)]
  have hlt : i - 1 < (L.map (·.2) ++ Ls.opn Bs rs n).length := by omega
  rw [List.getD_eq_getElem?_getD, List.getElem?_eq_getElem hlt]
  exact List.getElem_mem _

theorem chn_lt {Bs n H : Nat} {cs rs : List Int} {L : List (Nat × Nat)} (h : L.Perm (Ls.pos Bs cs rs n)) (i : Nat) (h1 : 1 ≤ i) (h2 : i ≤ 2 * n) : chn H (L.map (·.2) ++ Ls.opn Bs rs n) i < Bs + 3 * n := by
  obtain ⟨j, hj, h | h⟩ := chn_mem (H := H) h i h1 h2 <;> rw [h] <;> simp [Ls.E, Ls.N] <;> omega

theorem chn_inj {Bs n H : Nat} {cs rs : List Int} {L : List (Nat × Nat)} (h : L.Perm (Ls.pos Bs cs rs n)) (hH : Bs + 3 * n ≤ H) (i j : Nat) (hi : i ≤ 2 * n) (hj : j ≤ 2 * n) (e : chn H (L.map (·.2) ++ Ls.opn Bs rs n) i = chn H (L.map (·.2) ++ Ls.opn Bs rs n) j) : i = j := by
  by_cases h0 : i = 0
  · by_cases h1 : j = 0
    · omega
    · have := chn_lt (H := H) h j (by omega) hj
      rw [← e, h0] at this
      simp [chn] at this
      omega
  · by_cases h1 : j = 0
    · have := chn_lt (H := H) h i (by omega) hi
      rw [e, h1] at this
      simp [chn] at this
      omega
    · have hl := xs_len h
      have hnd : (L.map (·.2) ++ Ls.opn Bs rs n).Nodup := (xs_perm h).nodup_iff.2 (Ls.blks_nodup Bs cs rs n)
      generalize L.map (·.2) ++ Ls.opn Bs rs n = XS at *
      unfold chn at e
      rw [if_neg h0, if_neg h1, List.getD_eq_getElem?_getD, List.getD_eq_getElem?_getD, List.getElem?_eq_getElem (by omega), List.getElem?_eq_getElem (by omega)] at e
      have hp := List.pairwise_iff_getElem.1 hnd
      simp only [Option.getD_some] at e
      rcases Nat.lt_trichotomy (i - 1) (j - 1) with hlt | heq | hgt
      · exact absurd e (hp _ _ (by omega) (by omega) hlt)
      · omega
      · exact absurd e.symm (hp _ _ (by omega) (by omega) hgt)

theorem chn_first {Bs n H : Nat} {rs : List Int} (L : List (Nat × Nat)) (k : Nat) (hk : k < L.length) : chn H (L.map (·.2) ++ Ls.opn Bs rs n) (k + 1) = (L[k]!).2 := by
  simp [chn, List.getElem?_append, hk]

theorem chn_last {Bs n H : Nat} {rs : List Int} (L : List (Nat × Nat)) (j : Nat) (hj : j < (Ls.opn Bs rs n).length) : chn H (L.map (·.2) ++ Ls.opn Bs rs n) (L.length + j + 1) = (Ls.opn Bs rs n)[j]! := by
  simp [chn, hj]

theorem pos_le (Bs : Nat) (cs rs : List Int) (n : Nat) (hc : ∀ j, j < n → cs.getD j 0 ≤ 9223372036854775807) (hr : ∀ j, j < n → rs.getD j 0 ≤ 9223372036854775807) : ∀ x ∈ Ls.pos Bs cs rs n, x.1 ≤ 9223372036854775807 := by
  induction n with
  | zero => intro x hx; simp [Ls.pos] at hx
  | succ n ih =>
    intro x hx
    have h1 := hc n (by omega)
    have h2 := hr n (by omega)
    simp only [Ls.pos, List.mem_append, List.mem_cons] at hx
    rcases hx with hx | hx | hx
    · exact ih (fun j hj => hc j (by omega)) (fun j hj => hr j (by omega)) x hx
    · subst hx; show Int.toNat _ ≤ _; omega
    · split at hx
      · simp only [List.mem_cons, List.not_mem_nil, or_false] at hx; subst hx; show Int.toNat _ ≤ _; omega
      · simp at hx

/-- The chain ahead of the first add: the head and the box of the tail are new. -/
theorem chain0 {W2 : World} {m : Nat} {c : Nat → Nat} (Hc : Array Value) (h0 : c 0 = W2.heap.size) (hn2 : Hc[2]? = some (.pointer none)) (hn3 : Hc[3]? = some (.pointer none))
    (hx : ∀ i, 1 ≤ i → i ≤ m → W2.cell? ⟨c i, 2, none⟩ = some (.pointer none) ∧ W2.cell? ⟨c i, 3, none⟩ = some (.pointer none) ∧ ∀ o, W2.frozen? ⟨c i, o, none⟩ = false) :
    LInv W2 (W2.heap.size + 1) m c 0 ((W2.alloc (.cells Hc 57)).alloc (.cells #[.pointer (some ⟨W2.heap.size, 0, none⟩)] 23)) := by
  have hs : (W2.alloc (.cells Hc 57)).heap.size = W2.heap.size + 1 := by simp
  have lt : ∀ i, 1 ≤ i → i ≤ m → c i < W2.heap.size := fun i h1 h2 => World.block_lt_of_cell? W2 _ (hx i h1 h2).1
  have oldc : ∀ i, 1 ≤ i → i ≤ m → ∀ o, ((W2.alloc (.cells Hc 57)).alloc (.cells #[.pointer (some ⟨W2.heap.size, 0, none⟩)] 23)).cell? ⟨c i, o, none⟩ = W2.cell? ⟨c i, o, none⟩ := by
    intro i h1 h2 o
    have := lt i h1 h2
    rw [cAlloc (by simp; omega), cAlloc (by simpa using this)]
  have newc : ∀ o, ((W2.alloc (.cells Hc 57)).alloc (.cells #[.pointer (some ⟨W2.heap.size, 0, none⟩)] 23)).cell? ⟨c 0, o, none⟩ = Hc[o]? := by
    intro o
    rw [cAlloc (by simp [h0]), h0]
    simp
  refine ⟨rfl, rfl, rfl, by simp; omega, by simp, ?_, ?_, ?_, ?_, ?_, ?_, ?_, ?_, ?_⟩
  · intro b hb hn
    rw [Below.heap_alloc _ _ _ (by simp; omega), Below.heap_alloc _ _ _ hb]
  · have := World.cell?_alloc_new (W2.alloc (.cells Hc 57)) #[.pointer (some ⟨W2.heap.size, 0, none⟩)] 23 0
    rw [hs] at this
    rw [this, h0]
    rfl
  · intro i hi; omega
  · intro i hi hm
    by_cases hi0 : i = 0
    · subst hi0; rw [newc]; exact hn3
    · rw [oldc i (by omega) hm]; exact (hx i (by omega) hm).2.1
  · intro i hi; omega
  · intro i hi hm
    rw [oldc (i + 1) (by omega) (by omega)]; exact (hx (i + 1) (by omega) (by omega)).1
  · rw [newc]; exact hn2
  · intro i hi o
    by_cases hi0 : i = 0
    · subst hi0
      rw [fAlloc (by simp [h0]), h0]
      simp
    · have := lt i (by omega) hi
      rw [fAlloc (by simp; omega), fAlloc (by simp; omega)]
      exact (hx i (by omega) hi).2.2 o
  · have := World.frozen?_alloc_new (W2.alloc (.cells Hc 57)) #[.pointer (some ⟨W2.heap.size, 0, none⟩)] 23 0
    rw [hs] at this
    exact this

/-- One add, on the chain. -/
theorem add_chain {W2 : World} {T m : Nat} {c : Nat → Nat} (inj : ∀ i j, i ≤ m → j ≤ m → c i = c j → i = j) (hT : ∀ i, i ≤ m → T ≠ c i) (hTge : W2.heap.size ≤ T) (k b : Nat) (hk : k < m) (hb : b = c (k + 1)) (w : World) (h : LInv W2 T m c k w) :
    Calls Try.prog 36 #[.pointer (some ⟨b, 0, none⟩), .pointer (some ⟨T, 0, none⟩)] w fun r w' => r = .returned (.tuple #[]) ∧ LInv W2 T m c (k + 1) w' := by
  subst hb
  refine (add_any (c (k + 1)) (c k) T _ _ w h.tl (h.pv0 k (Nat.le_refl _) hk) (h.nx0 k (Nat.le_refl _) (by omega)) h.fT (h.fz _ (by omega) _) (h.fz _ (by omega) _) (hT _ (by omega)).symm (hT _ (by omega)).symm).mono ?_
  rintro r w' ⟨rfl, q, rfl⟩
  exact ⟨rfl, (h.add hk inj hT hTge).drewN q⟩

/-- The sort, with what list needs besides. -/
theorem sort_list {W wc : World} {Bs n : Nat} {cs rs : List Int} {ao bo : Option Addr} {cap cap2 lp lo : Nat} (hlp : lp = (Ls.pos Bs cs rs n).length) (hlo : lo = (Ls.opn Bs rs n).length) (hn : n ≤ 4096)
    (hv : wc.ownsRow W.heap.size 71 2 (.slice ao lp cap) lp (flat (Ls.pos Bs cs rs n))) (hu : wc.ownsRow W.heap.size 23 1 (.slice bo lo cap2) lo ((Ls.opn Bs rs n).map fun b => .pointer (some ⟨b, 0, none⟩))) (hb : Below W.heap.size W wc)
    (hL : ∀ x ∈ Ls.pos Bs cs rs n, x.1 ≤ 9223372036854775807) :
    Calls Try.prog 34 #[.slice ao lp cap, .func (.func 35) #[] #[]] wc fun e w' => e = .returned (.tuple #[]) ∧ ∃ L : List (Nat × Nat), Hid (L.Perm (Ls.pos Bs cs rs n) ∧ (∀ i j, i < j → j < L.length → L[i]!.1 ≤ L[j]!.1) ∧ L.length = lp ∧ w'.ownsRow W.heap.size 71 2 (.slice ao L.length cap) L.length (flat L) ∧ w'.ownsRow W.heap.size 23 1 (.slice bo (Ls.opn Bs rs n).length cap2) (Ls.opn Bs rs n).length ((Ls.opn Bs rs n).map fun b => .pointer (some ⟨b, 0, none⟩)) ∧ Below W.heap.size W w') := by
  subst hlp hlo
  have hlens := Ls.lens Bs cs rs n
  refine (sort_any W.heap.size _ (Ls.pos Bs cs rs n) wc hv hL (by omega)).mono ?_
  rintro e w' ⟨rfl, L, hp, hs, ho, hg⟩
  have hl := hp.length_eq
  refine ⟨rfl, L, hp, hs, hl, by rw [hl] at ho ⊢; exact ho, hu.kept hg (own_ne hv hu (by decide)), hb.grown hg hb.size (fun k hk => (hv.lt k hk).1)⟩

end Go.Proofs.Qxb6601677a
