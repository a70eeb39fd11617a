/-
  The plain law of overlongASCII: which byte lists end with the long encoding of an ASCII character. No Go in sight.
-/
namespace Go.Proofs.Qxb6601358a.Ov

def Cont (z : Int) : Prop := 128 ≤ z ∧ z < 192

/-- The n-byte layout of c (0 <= c < 256). -/
def enc (c : Int) : Nat → List Int
  | 2 => [192 + c / 64, 128 + c % 64]
  | 3 => [224, 128 + c / 64, 128 + c % 64]
  | 4 => [240, 128, 128 + c / 64, 128 + c % 64]
  | 5 => [248, 128, 128, 128 + c / 64, 128 + c % 64]
  | 6 => [252, 128, 128, 128, 128 + c / 64, 128 + c % 64]
  | _ => []

theorem five {n : Nat} (h1 : 2 ≤ n) (h2 : n ≤ 6) : n = 2 ∨ n = 3 ∨ n = 4 ∨ n = 5 ∨ n = 6 := by omega

theorem enc_length (c : Int) (n : Nat) (h1 : 2 ≤ n) (h2 : n ≤ 6) : (enc c n).length = n := by
  rcases five h1 h2 with rfl | rfl | rfl | rfl | rfl <;> rfl

/-- zs ends with the n-byte layout of the ASCII character c. -/
def Ends (zs : List Int) (c : Int) (n : Nat) : Prop := 0 ≤ c ∧ c < 128 ∧ 2 ≤ n ∧ n ≤ 6 ∧ ∃ p, zs = p ++ enc c n

/-- What overlongASCII answers. -/
def Res (zs : List Int) (c : Int) (n : Nat) : Prop := Ends zs c n ∨ (c = 0 ∧ n = 0 ∧ ∀ c' n', ¬ Ends zs c' n')

/-- k: how many continuation bytes zs ends with, counted up to six. -/
def Trail (zs : List Int) (k : Nat) : Prop :=
  k ≤ 6 ∧ k ≤ zs.length ∧ (∀ i, i < k → Cont (zs.getD (zs.length - 1 - i) 0)) ∧ (k = 6 ∨ k = zs.length ∨ ¬ Cont (zs.getD (zs.length - 1 - k) 0))

theorem getD_last (p l : List Int) (i : Nat) (h : i < l.length) : (p ++ l).getD ((p ++ l).length - 1 - i) 0 = l.getD (l.length - 1 - i) 0 := by
  have e : (p ++ l).length - 1 - i = p.length + (l.length - 1 - i) := by simp; omega
  rw [e]
  simp [List.getElem?_append_right]

/-- The last n-1 bytes of a layout go on, the byte ahead of them does not. -/
theorem enc_cont (c : Int) (n i : Nat) (h0 : 0 ≤ c) (hc : c < 256) (h1 : 2 ≤ n) (h2 : n ≤ 6) (hi : i + 1 < n) : Cont ((enc c n).getD (n - 1 - i) 0) := by
  unfold Cont
  rcases five h1 h2 with rfl | rfl | rfl | rfl | rfl
  · obtain rfl : i = 0 := by omega
    simp [enc]; omega
  · rcases (show i = 0 ∨ i = 1 by omega) with rfl | rfl <;> simp [enc] <;> omega
  · rcases (show i = 0 ∨ i = 1 ∨ i = 2 by omega) with rfl | rfl | rfl <;> simp [enc] <;> omega
  · rcases (show i = 0 ∨ i = 1 ∨ i = 2 ∨ i = 3 by omega) with rfl | rfl | rfl | rfl <;> simp [enc] <;> omega
  · rcases (show i = 0 ∨ i = 1 ∨ i = 2 ∨ i = 3 ∨ i = 4 by omega) with rfl | rfl | rfl | rfl | rfl <;> simp [enc] <;> omega

theorem enc_lead (c : Int) (n : Nat) (h0 : 0 ≤ c) (h1 : 2 ≤ n) (h2 : n ≤ 6) : ¬ Cont ((enc c n).getD 0 0) := by
  unfold Cont
  rcases five h1 h2 with rfl | rfl | rfl | rfl | rfl <;> simp [enc]
  omega

/-- Where zs ends with a layout, also of a byte that is no ASCII, the count is one less than its length. -/
theorem trail_of (p : List Int) (c : Int) (n k : Nat) (h0 : 0 ≤ c) (hc : c < 256) (h1 : 2 ≤ n) (h2 : n ≤ 6) (ht : Trail (p ++ enc c n) k) : k + 1 = n := by
  have hl := enc_length c n h1 h2
  obtain ⟨t1, t2, t3, t4⟩ := ht
  have hlen : (p ++ enc c n).length = p.length + n := by simp [hl]
  rcases Nat.lt_trichotomy (k + 1) n with hlt | heq | hgt
  · rcases t4 with t4 | t4 | t4
    · omega
    · omega
    · rw [getD_last p _ k (by omega), hl] at t4
      exact absurd (enc_cont c n k h0 hc h1 h2 hlt) t4
  · exact heq
  · have := t3 (n - 1) (by omega)
    rw [getD_last p _ (n - 1) (by omega), hl, Nat.sub_self] at this
    exact absurd this (enc_lead c n h0 h1 h2)

theorem ends_trail {zs : List Int} {c : Int} {n k : Nat} (h : Ends zs c n) (ht : Trail zs k) : k + 1 = n := by
  obtain ⟨h0, hc, h1, h2, p, rfl⟩ := h
  exact trail_of p c n k h0 (by omega) h1 h2 ht

/-- No layout can end there. -/
theorem res_none {zs : List Int} {k : Nat} (ht : Trail zs k) (h : k = 0 ∨ k = zs.length ∨ 5 < k) : Res zs 0 0 := by
  refine .inr ⟨rfl, rfl, fun c n he => ?_⟩
  have := ends_trail he ht
  obtain ⟨h0, hc, h1, h2, p, rfl⟩ := he
  have hl := enc_length c n h1 h2
  have hlen : (p ++ enc c n).length = p.length + n := by simp [hl]
  omega

/-- The value that the lead's low bits and the bytes behind it spell. -/
def val (v : Int) (bs : List Int) : Int := bs.foldl (fun v c => v * 64 + c % 64) v

theorem val_snoc (v : Int) (bs : List Int) (b : Int) : val v (bs ++ [b]) = val v bs * 64 + b % 64 := by simp [val]

theorem val_bound : ∀ (bs : List Int) (v : Int), 0 ≤ v → v < 64 → 0 ≤ val v bs ∧ val v bs < 64 ^ (bs.length + 1) := by
  intro bs
  suffices h : ∀ (bs : List Int) (v : Int) (m : Nat), 0 ≤ v → v < 64 ^ m → 0 ≤ val v bs ∧ val v bs < 64 ^ (bs.length + m) by
    intro v h0 h1
    exact h bs v 1 h0 (by omega)
  intro bs
  induction bs with
  | nil => intro v m h0 h1; simpa [val] using ⟨h0, h1⟩
  | cons b bs ih =>
    intro v m h0 h1
    have h2 : v * 64 + b % 64 < 64 ^ (m + 1) := by rw [Int.pow_succ]; omega
    have := ih (v * 64 + b % 64) (m + 1) (by omega) h2
    have e : (b :: bs).length + m = bs.length + (m + 1) := by simp; omega
    rw [e]
    exact this

theorem val_lt (bs : List Int) (v : Int) (h0 : 0 ≤ v) (h1 : v < 64) (hl : bs.length ≤ 5) : 0 ≤ val v bs ∧ val v bs < 68719476736 := by
  have h := val_bound bs v h0 h1
  refine ⟨h.1, ?_⟩
  rcases (show bs.length = 0 ∨ bs.length = 1 ∨ bs.length = 2 ∨ bs.length = 3 ∨ bs.length = 4 ∨ bs.length = 5 by omega) with e | e | e | e | e | e <;> rw [e] at h <;> omega

theorem val_next (zs : List Int) (v : Int) (m j : Nat) (h : m + j < zs.length) : val v ((zs.drop m).take (j + 1)) = val v ((zs.drop m).take j) * 64 + zs.getD (m + j) 0 % 64 := by
  have e : (zs.drop m).take (j + 1) = (zs.drop m).take j ++ [zs.getD (m + j) 0] := by
    rw [List.take_succ_eq_append_getElem (by simp; omega)]
    simp [h]
  rw [e, val_snoc]

theorem lead_of (zs : List Int) (k : Nat) (h : k + 1 ≤ zs.length) : ∃ p bs, zs = p ++ zs.getD (zs.length - (k + 1)) 0 :: bs ∧ bs = zs.drop (zs.length - k) ∧ bs.length = k := by
  refine ⟨zs.take (zs.length - (k + 1)), zs.drop (zs.length - k), ?_, rfl, by simp; omega⟩
  have e1 : zs.length - (k + 1) < zs.length := by omega
  have e2 : zs.getD (zs.length - (k + 1)) 0 = zs[zs.length - (k + 1)] := by simp [e1]
  have e3 : zs.length - k = zs.length - (k + 1) + 1 := by omega
  rw [e2, e3, ← List.drop_eq_getElem_cons e1, List.take_append_drop]

/-- The lead's low bits, for k bytes behind it. -/
def low (k : Nat) (l : Int) : Int := l % 2 ^ (6 - k)
/-- The lead's high bits are those of a layout of k + 1 bytes. -/
def Lead (k : Nat) (l : Int) : Prop := l / 2 ^ (6 - k) = 2 ^ (k + 2) - 2

theorem four (k : Nat) (h1 : 1 ≤ k) (h2 : k ≤ 5) : k = 1 ∨ k = 2 ∨ k = 3 ∨ k = 4 ∨ k = 5 := by omega

/-- The answer where there are one to five bytes behind a lead: yes. -/
theorem ends_yes (p bs : List Int) (l : Int) (k : Nat) (h1 : 1 ≤ k) (h2 : k ≤ 5) (hk : bs.length = k) (hb : ∀ b ∈ bs, Cont b) (hl : Lead k l) (hv : val (low k l) bs < 128) :
    Ends (p ++ l :: bs) (val (low k l) bs) (k + 1) := by
  unfold Lead at hl
  unfold Cont at hb
  rcases four k h1 h2 with rfl | rfl | rfl | rfl | rfl
  · match bs, hk with
    | [a], _ =>
      have ha := hb a (by simp)
      simp [val, low] at hv hl ⊢
      refine ⟨by omega, by omega, by omega, by omega, p, ?_⟩
      simp [enc]; omega
  · match bs, hk with
    | [a, b], _ =>
      have ha := hb a (by simp); have hb' := hb b (by simp)
      simp [val, low] at hv hl ⊢
      refine ⟨by omega, by omega, by omega, by omega, p, ?_⟩
      simp [enc]; omega
  · match bs, hk with
    | [a, b, c], _ =>
      have ha := hb a (by simp); have hb' := hb b (by simp); have hc := hb c (by simp)
      simp [val, low] at hv hl ⊢
      refine ⟨by omega, by omega, by omega, by omega, p, ?_⟩
      simp [enc]; omega
  · match bs, hk with
    | [a, b, c, d], _ =>
      have ha := hb a (by simp); have hb' := hb b (by simp); have hc := hb c (by simp); have hd := hb d (by simp)
      simp [val, low] at hv hl ⊢
      refine ⟨by omega, by omega, by omega, by omega, p, ?_⟩
      simp [enc]; omega
  · match bs, hk with
    | [a, b, c, d, e], _ =>
      have ha := hb a (by simp); have hb' := hb b (by simp); have hc := hb c (by simp); have hd := hb d (by simp); have he := hb e (by simp)
      simp [val, low] at hv hl ⊢
      refine ⟨by omega, by omega, by omega, by omega, p, ?_⟩
      simp [enc]; omega

/-- A layout of a byte has such a lead, and its value is the byte. -/
theorem enc_val (c : Int) (k : Nat) (h0 : 0 ≤ c) (hc : c < 256) (h1 : 1 ≤ k) (h2 : k ≤ 5) (l : Int) (bs : List Int) (h : enc c (k + 1) = l :: bs) : Lead k l ∧ val (low k l) bs = c := by
  unfold Lead
  rcases four k h1 h2 with rfl | rfl | rfl | rfl | rfl
  all_goals
    simp only [enc, List.cons.injEq] at h
    obtain ⟨rfl, rfl⟩ := h
    simp [val, low]
    omega

theorem res_some {zs : List Int} {k : Nat} (ht : Trail zs k) (h1 : 1 ≤ k) (h2 : k ≤ 5) (hk : k < zs.length) :
    let l := zs.getD (zs.length - (k + 1)) 0
    let v := val (low k l) (zs.drop (zs.length - k))
    (¬ Lead k l → Res zs 0 0) ∧ (Lead k l → 128 ≤ v → Res zs 0 0) ∧ (Lead k l → v < 128 → Res zs v (k + 1)) := by
  obtain ⟨p, bs, hz, hbs, hl⟩ := lead_of zs k hk
  intro l v
  have hcont : ∀ b ∈ bs, Cont b := by
    intro b hb
    rw [hbs] at hb
    obtain ⟨j, hj, rfl⟩ := List.getElem_of_mem hb
    simp only [List.length_drop] at hj
    have := ht.2.2.1 (k - 1 - j) (by omega)
    rw [show zs.length - 1 - (k - 1 - j) = zs.length - k + j from by omega] at this
    simpa [show zs.length - k + j < zs.length from by omega] using this
  -- whatever layout zs ends with, it is this lead and these bytes
  have only : ∀ c n, Ends zs c n → Lead k l ∧ v = c := by
    intro c n he
    have hn := ends_trail he ht
    obtain ⟨h0, hc, _, _, q, hq⟩ := he
    subst hn
    have hle := enc_length c (k + 1) (by omega) (by omega)
    have heq : p ++ l :: bs = q ++ enc c (k + 1) := by rw [← hz, hq]
    have hpq : p.length = q.length := by
      have := congrArg List.length heq
      simp [hle, hl] at this
      omega
    have := (List.append_inj heq hpq).2
    have r := enc_val c k h0 (by omega) h1 h2 l bs this.symm
    exact ⟨r.1, by show val (low k l) (zs.drop (zs.length - k)) = c; rw [← hbs]; exact r.2⟩
  refine ⟨fun hn => .inr ⟨rfl, rfl, fun c n he => hn (only c n he).1⟩, fun _ hv => .inr ⟨rfl, rfl, fun c n he => ?_⟩, fun hL hv => .inl ?_⟩
  · have := (only c n he).2
    have := he.2.1
    omega
  · have hv' : val (low k l) bs < 128 := by rw [hbs]; exact hv
    have := ends_yes p bs l k h1 h2 hl hcont hL hv'
    rw [hz]
    show Ends (p ++ l :: bs) (val (low k l) (zs.drop (zs.length - k))) (k + 1)
    rw [← hbs]
    exact this

/-- One layout at most: whatever ends with a layout of a byte ends with no other. -/
theorem enc_only (p q : List Int) (c r : Int) (n m : Nat) (hc0 : 0 ≤ c) (hc : c < 256) (hn1 : 2 ≤ n) (hn2 : n ≤ 6) (hr0 : 0 ≤ r) (hr : r < 256) (hm1 : 2 ≤ m) (hm2 : m ≤ 6)
    (h : p ++ enc c n = q ++ enc r m) : c = r ∧ n = m := by
  have hl := enc_length c n hn1 hn2
  have hl' := enc_length r m hm1 hm2
  have hlead : ∀ (p q : List Int) (c r : Int) (n m : Nat), 0 ≤ c → c < 256 → 2 ≤ n → n ≤ 6 → 0 ≤ r → r < 256 → 2 ≤ m → m ≤ 6 → p ++ enc c n = q ++ enc r m → ¬ n < m := by
    intro p q c r n m hc0 hc hn1 hn2 hr0 hr hm1 hm2 h hlt
    have hl := enc_length c n hn1 hn2
    have hl' := enc_length r m hm1 hm2
    have e1 := getD_last p (enc c n) (n - 1) (by omega)
    have e2 := getD_last q (enc r m) (n - 1) (by omega)
    rw [h, e2, hl', hl, Nat.sub_self] at e1
    have := enc_cont r m (n - 1) hr0 hr hm1 hm2 (by omega)
    rw [e1] at this
    exact enc_lead c n hc0 hn1 hn2 this
  have a := hlead p q c r n m hc0 hc hn1 hn2 hr0 hr hm1 hm2 h
  have b := hlead q p r c m n hr0 hr hm1 hm2 hc0 hc hn1 hn2 h.symm
  have e : n = m := by omega
  subst e
  refine ⟨?_, rfl⟩
  have hpq : p.length = q.length := by
    have := congrArg List.length h
    simp [hl, hl'] at this
    omega
  have := (List.append_inj h hpq).2
  rcases five hn1 hn2 with rfl | rfl | rfl | rfl | rfl <;> simp [enc] at this <;> omega

/-- The answer where a layout of a byte stands at the end. -/
theorem res_enc (p : List Int) (c r : Int) (n m : Nat) (hc0 : 0 ≤ c) (hc : c < 256) (hn1 : 2 ≤ n) (hn2 : n ≤ 6) (h : Res (p ++ enc c n) r m) :
    (c < 128 → r = c ∧ m = n) ∧ (128 ≤ c → r = 0 ∧ m = 0) := by
  rcases h with ⟨h0, h1, h2, h3, q, h4⟩ | ⟨h0, h1, h2⟩
  · have := enc_only p q c r n m hc0 hc hn1 hn2 h0 (by omega) h2 h3 h4
    exact ⟨fun _ => ⟨this.1.symm, this.2.symm⟩, fun _ => by omega⟩
  · refine ⟨fun hlt => ?_, fun _ => ⟨h0, h1⟩⟩
    exact absurd ⟨hc0, hlt, hn1, hn2, p, rfl⟩ (h2 c n)

#print axioms res_some
#print axioms res_enc
end Go.Proofs.Qxb6601358a.Ov
