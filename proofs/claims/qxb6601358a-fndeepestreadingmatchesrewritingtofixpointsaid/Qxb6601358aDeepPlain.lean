/-
  The plain law of the deepest reading: reading a text from left to right onto a stack, each encoding being read as soon as it is complete, gives what whole passes of rewriting end in. No Go in sight.
-/
import Derived.Test.Qxb6601358aOvPlain
namespace Go.Proofs.Qxb6601358a.Deep
open Ov

def Hex (c : Int) : Prop := 48 ≤ c ∧ c ≤ 57 ∨ 97 ≤ c ∧ c ≤ 102 ∨ 65 ≤ c ∧ c ≤ 70
def hv (c : Int) : Int := if c ≤ 57 then c - 48 else if c ≤ 70 then c - 55 else c - 87

theorem hv_lt (c : Int) (h : Hex c) : 0 ≤ hv c ∧ hv c < 16 := by
  unfold Hex at h; unfold hv; split <;> (try split) <;> omega

/-- The word l stands for the byte c: a percent-encoding, or a long encoding of an ASCII character. -/
def Redex (l : List Int) (c : Int) : Prop :=
  (∃ a b, Hex a ∧ Hex b ∧ l = [37, a, b] ∧ c = hv a * 16 + hv b) ∨ ∃ n, 0 ≤ c ∧ c < 128 ∧ 2 ≤ n ∧ n ≤ 6 ∧ l = enc c n

theorem Redex.len {l : List Int} {c : Int} (h : Redex l c) : 2 ≤ l.length := by
  rcases h with ⟨a, b, _, _, rfl, _⟩ | ⟨n, _, _, h1, h2, rfl⟩
  · simp
  · rw [enc_length c n h1 h2]; exact h1

theorem Redex.byte {l : List Int} {c : Int} (h : Redex l c) : 0 ≤ c ∧ c ≤ 255 := by
  rcases h with ⟨a, b, ha, hb, rfl, rfl⟩ | ⟨n, _, _, h1, h2, rfl⟩
  · have := hv_lt a ha; have := hv_lt b hb; omega
  · omega

/-- r ends with an encoding of c, and p stands ahead of it. -/
def Sfx (r p : List Int) (c : Int) : Prop := ∃ l, r = p ++ l ∧ Redex l c

theorem last_pct (p : List Int) (a b : Int) : (p ++ [37, a, b]).getD ((p ++ [37, a, b]).length - 1) 0 = b := by
  have := getD_last p [37, a, b] 0 (by simp)
  rw [Nat.sub_zero] at this
  rw [this]
  rfl

theorem last_enc (p : List Int) (c : Int) (n : Nat) (h0 : 0 ≤ c) (hc : c < 256) (h1 : 2 ≤ n) (h2 : n ≤ 6) : Cont ((p ++ enc c n).getD ((p ++ enc c n).length - 1) 0) := by
  have hl := enc_length c n h1 h2
  have := getD_last p (enc c n) 0 (by omega)
  rw [Nat.sub_zero] at this
  rw [this, hl]
  exact enc_cont c n 0 h0 hc h1 h2 (by omega)

theorem not_hex_cont {x : Int} (h : Hex x) (k : Cont x) : False := by unfold Hex at h; unfold Cont at k; omega

theorem sfx_unique {r p p' : List Int} {c c' : Int} (h : Sfx r p c) (h' : Sfx r p' c') : p = p' ∧ c = c' := by
  obtain ⟨l, hl, hr⟩ := h
  obtain ⟨l', hl', hr'⟩ := h'
  rcases hr with ⟨a, b, ha, hb, rfl, rfl⟩ | ⟨n, h0, h1, h2, h3, rfl⟩
  · rcases hr' with ⟨a', b', ha', hb', rfl, rfl⟩ | ⟨m, k0, k1, k2, k3, rfl⟩
    · have heq := hl.symm.trans hl'
      have hpq : p.length = p'.length := by have := congrArg List.length heq; simpa using this
      obtain ⟨e1, e2⟩ := List.append_inj heq hpq
      simp at e2
      obtain ⟨rfl, rfl⟩ := e2
      exact ⟨e1, rfl⟩
    · exfalso
      have e1 := last_pct p a b
      have e2 := last_enc p' c' m k0 (by omega) k2 k3
      rw [← hl] at e1
      rw [← hl', e1] at e2
      exact not_hex_cont hb e2
  · rcases hr' with ⟨a', b', ha', hb', rfl, rfl⟩ | ⟨m, k0, k1, k2, k3, rfl⟩
    · exfalso
      have e1 := last_pct p' a' b'
      have e2 := last_enc p c n h0 (by omega) h2 h3
      rw [← hl'] at e1
      rw [← hl, e1] at e2
      exact not_hex_cont hb' e2
    · have heq := hl.symm.trans hl'
      obtain ⟨rfl, rfl⟩ := enc_only p p' c c' n m h0 (by omega) h2 h3 k0 (by omega) k2 k3 heq
      exact ⟨List.append_cancel_right heq, rfl⟩

/-- k encodings at the end are read, one behind the other; then there is none. -/
def Nrm : Nat → List Int → List Int → Prop
  | 0, r, t => r = t ∧ ∀ p c, ¬ Sfx r p c
  | k + 1, r, t => ∃ p c, Sfx r p c ∧ Nrm k (p ++ [c]) t

def Norm (r t : List Int) : Prop := ∃ k, Nrm k r t

theorem nrm_det : ∀ (k k' : Nat) (r t t' : List Int), Nrm k r t → Nrm k' r t' → t = t'
  | 0, 0, _, _, _, h, h' => h.1.symm.trans h'.1
  | 0, _ + 1, _, _, _, h, h' => by obtain ⟨p, c, hs, _⟩ := h'; exact absurd hs (h.2 p c)
  | _ + 1, 0, _, _, _, h, h' => by obtain ⟨p, c, hs, _⟩ := h; exact absurd hs (h'.2 p c)
  | k + 1, k' + 1, _, t, t', h, h' => by
    obtain ⟨p, c, hs, hn⟩ := h
    obtain ⟨p', c', hs', hn'⟩ := h'
    obtain ⟨rfl, rfl⟩ := sfx_unique hs hs'
    exact nrm_det k k' _ _ _ hn hn'

theorem norm_det {r t t' : List Int} (h : Norm r t) (h' : Norm r t') : t = t' := by
  obtain ⟨k, h⟩ := h
  obtain ⟨k', h'⟩ := h'
  exact nrm_det k k' r t t' h h'

theorem norm_none {r t : List Int} (h : ∀ p c, ¬ Sfx r p c) : Norm r t ↔ t = r :=
  ⟨fun hn => (norm_det ⟨0, rfl, h⟩ hn).symm, fun e => ⟨0, e.symm, h⟩⟩

theorem norm_step {r p t : List Int} {c : Int} (h : Sfx r p c) : Norm r t ↔ Norm (p ++ [c]) t := by
  constructor
  · rintro ⟨k, hk⟩
    cases k with
    | zero => exact absurd h (hk.2 p c)
    | succ k =>
      obtain ⟨p', c', hs, hn⟩ := hk
      obtain ⟨rfl, rfl⟩ := sfx_unique h hs
      exact ⟨k, hn⟩
  · rintro ⟨k, hk⟩
    exact ⟨k + 1, p, c, h, hk⟩

/-- The text s is read onto the stack r, byte by byte; what comes of it is t. -/
def Rdg : List Int → List Int → List Int → Prop
  | [], r, t => t = r
  | b :: s, r, t => ∃ m, Norm (r ++ [b]) m ∧ Rdg s m t

theorem rdg_det : ∀ (s r t t' : List Int), Rdg s r t → Rdg s r t' → t = t'
  | [], _, _, _, h, h' => h.trans h'.symm
  | b :: s, r, t, t', h, h' => by
    obtain ⟨m, hm, hr⟩ := h
    obtain ⟨m', hm', hr'⟩ := h'
    obtain rfl := norm_det hm hm'
    exact rdg_det s m t t' hr hr'

theorem rdg_append : ∀ (x y r t : List Int), Rdg (x ++ y) r t ↔ ∃ m, Rdg x r m ∧ Rdg y m t
  | [], y, r, t => ⟨fun h => ⟨r, rfl, h⟩, fun ⟨m, e, h⟩ => by rw [show m = r from e] at h; exact h⟩
  | b :: x, y, r, t => by
    constructor
    · rintro ⟨m, hm, h⟩
      obtain ⟨q, hq, hy⟩ := (rdg_append x y m t).1 h
      exact ⟨q, ⟨m, hm, hq⟩, hy⟩
    · rintro ⟨q, ⟨m, hm, hq⟩, hy⟩
      exact ⟨m, hm, (rdg_append x y m t).2 ⟨q, hq, hy⟩⟩

/-- A beginning of a long encoding, the whole of none: nothing ends there. -/
theorem nosfx (r : List Int) (l : Int) (bs : List Int) (hl : ¬ Cont l) (hh : ¬ Hex l) (hb : ∀ b ∈ bs, Cont b) (hne : ∀ c n, 0 ≤ c → c < 128 → 2 ≤ n → n ≤ 6 → l :: bs ≠ enc c n) : ∀ p c, ¬ Sfx (r ++ l :: bs) p c := by
  rintro p c ⟨q, hq, hr⟩
  have hlast : ¬ Hex ((r ++ l :: bs).getD ((r ++ l :: bs).length - 1) 0) := by
    have e := getD_last r (l :: bs) 0 (by simp)
    rw [Nat.sub_zero] at e
    rw [e]
    cases bs with
    | nil => simpa using hh
    | cons b bs =>
      intro hx
      have hmem : (l :: b :: bs).getD ((l :: b :: bs).length - 1 - 0) 0 ∈ b :: bs := by
        have e2 : (l :: b :: bs).getD ((l :: b :: bs).length - 1 - 0) 0 = (b :: bs).getD bs.length 0 := by simp
        rw [e2]
        have : bs.length < (b :: bs).length := by simp
        rw [List.getD_eq_getElem?_getD, List.getElem?_eq_getElem this]
        exact List.getElem_mem this
      exact not_hex_cont hx (hb _ hmem)
  rcases hr with ⟨a, b, ha, hb', rfl, rfl⟩ | ⟨n, h0, h1, h2, h3, rfl⟩
  · rw [hq, last_pct] at hlast
    exact hlast hb'
  · have hle := enc_length c n h2 h3
    have atr : ∀ i, i < bs.length → Cont ((r ++ l :: bs).getD ((r ++ l :: bs).length - 1 - i) 0) := by
      intro i hi
      rw [getD_last r (l :: bs) i (by simp; omega)]
      have e2 : (l :: bs).length - 1 - i = (bs.length - 1 - i) + 1 := by simp; omega
      rw [e2]
      have h4 : bs.length - 1 - i < bs.length := by omega
      have : (l :: bs).getD (bs.length - 1 - i + 1) 0 = bs[bs.length - 1 - i] := by simp [h4]
      rw [this]
      exact hb _ (List.getElem_mem h4)
    have atl : (r ++ l :: bs).getD ((r ++ l :: bs).length - 1 - bs.length) 0 = l := by
      rw [getD_last r (l :: bs) bs.length (by simp)]
      simp
    rcases Nat.lt_trichotomy n (bs.length + 1) with hlt | heq | hgt
    · have e := atr (n - 1) (by omega)
      rw [hq, getD_last p (enc c n) (n - 1) (by omega), hle, Nat.sub_self] at e
      exact enc_lead c n h0 h2 h3 e
    · have hlen : r.length = p.length := by
        have := congrArg List.length hq
        simp [hle] at this
        omega
      exact hne c n h0 h1 h2 h3 (List.append_inj hq hlen).2
    · have e := enc_cont c n bs.length h0 (by omega) h2 h3 (by omega)
      have e2 := getD_last p (enc c n) bs.length (by omega)
      rw [← hq, hle, atl] at e2
      rw [← e2] at e
      exact hl e

theorem rdg_one (r t : List Int) (c : Int) : Rdg [c] r t ↔ Norm (r ++ [c]) t :=
  ⟨fun ⟨m, hm, e⟩ => by rw [show t = m from e]; exact hm, fun h => ⟨t, h, rfl⟩⟩

theorem rdg_cons_none (b : Int) (s r t : List Int) (h : ∀ p c, ¬ Sfx (r ++ [b]) p c) : Rdg (b :: s) r t ↔ Rdg s (r ++ [b]) t :=
  ⟨fun ⟨m, hm, hr⟩ => by rw [(norm_none h).1 hm] at hr; exact hr, fun hr => ⟨r ++ [b], (norm_none h).2 rfl, hr⟩⟩

theorem nosfx_pct (r : List Int) : ∀ p c, ¬ Sfx (r ++ [37]) p c :=
  nosfx r 37 [] (by unfold Cont; omega) (by unfold Hex; omega) (by simp) (by
    intro c n _ _ h2 h3 he
    have := congrArg List.length he
    rw [enc_length c n h2 h3] at this
    simp at this
    omega)

theorem nosfx_pct2 (r : List Int) (a : Int) (ha : Hex a) : ∀ p c, ¬ Sfx (r ++ [37] ++ [a]) p c := by
  rintro p c ⟨q, hq, hr⟩
  have e := getD_last (r ++ [37]) [a] 0 (by simp)
  simp only [Nat.sub_zero] at e
  rcases hr with ⟨x, y, hx, hy, rfl, rfl⟩ | ⟨n, h0, h1, h2, h3, rfl⟩
  · -- the byte ahead of the last would be a hex digit, and it is the percent sign
    have hx' : x = 37 := by
      have h1 := getD_last r [37, a] 1 (by simp)
      have h2 := getD_last p [37, x, y] 1 (by simp)
      have hq' : r ++ [37, a] = p ++ [37, x, y] := by rw [← hq]; simp
      rw [hq', h2] at h1
      simpa using h1
    subst hx'
    unfold Hex at hx; omega
  · have e2 := last_enc p c n h0 (by omega) h2 h3
    rw [← hq, e] at e2
    simp at e2
    exact not_hex_cont ha e2

/-- An encoding is read as the byte that it stands for, whatever stands ahead. -/
theorem redex_read {l : List Int} {c : Int} (h : Redex l c) (r t : List Int) : Rdg l r t ↔ Rdg [c] r t := by
  rcases h with ⟨a, b, ha, hb, rfl, rfl⟩ | ⟨n, h0, h1, h2, h3, rfl⟩
  · rw [rdg_cons_none _ _ _ _ (nosfx_pct r), rdg_cons_none _ _ _ _ (nosfx_pct2 r a ha), rdg_one, rdg_one]
    exact norm_step ⟨[37, a, b], by simp, .inl ⟨a, b, ha, hb, rfl, rfl⟩⟩
  · -- all but the last byte are laid down as they come
    have lay : ∀ (j : Nat), j < n → (Rdg (enc c n) r t ↔ Rdg ((enc c n).drop j) (r ++ (enc c n).take j) t) := by
      intro j
      induction j with
      | zero => intro _; simp
      | succ j ih =>
        intro hj
        rw [ih (by omega)]
        have hle := enc_length c n h2 h3
        have hjl : j < (enc c n).length := by omega
        rw [List.drop_eq_getElem_cons hjl]
        have e1 : (enc c n).take (j + 1) = (enc c n).take j ++ [(enc c n)[j]] := List.take_succ_eq_append_getElem hjl
        rw [e1, ← List.append_assoc]
        refine rdg_cons_none _ _ _ _ ?_
        rw [List.append_assoc, ← e1]
        -- the beginning of the layout, of j + 1 bytes
        have e0 : (enc c n).take (j + 1) = (enc c n)[0] :: ((enc c n).take (j + 1)).drop 1 := by
          have h0l : 0 < ((enc c n).take (j + 1)).length := by simp; omega
          have := List.drop_eq_getElem_cons h0l
          simpa using this
        rw [e0]
        have g0 : (enc c n)[0] = (enc c n).getD 0 0 := by simp [show 0 < (enc c n).length by omega]
        refine nosfx r _ _ ?_ ?_ ?_ ?_
        · rw [g0]; exact enc_lead c n h0 h2 h3
        · rw [g0]
          unfold Hex
          rcases five h2 h3 with rfl | rfl | rfl | rfl | rfl <;> simp [enc]
          omega
        · intro b hb
          obtain ⟨i, hi, rfl⟩ := List.getElem_of_mem hb
          simp only [List.length_drop, List.length_take] at hi
          have e4 : (((enc c n).take (j + 1)).drop 1)[i] = (enc c n).getD (n - 1 - (n - 2 - i)) 0 := by
            have h5 : n - 1 - (n - 2 - i) = i + 1 := by omega
            have h6 : i + 1 < (enc c n).length := by omega
            rw [h5]
            simp [h6]
          rw [e4]
          exact enc_cont c n (n - 2 - i) h0 (by omega) h2 h3 (by omega)
        · intro c' m k0 k1 k2 k3 he
          rw [← e0] at he
          have hm := congrArg List.length he
          rw [enc_length c' m k2 k3] at hm
          simp only [List.length_take] at hm
          have hh : ((enc c n).take (j + 1)).getD 0 0 = (enc c' m).getD 0 0 := by rw [he]
          have e7 : ((enc c n).take (j + 1)).getD 0 0 = (enc c n).getD 0 0 := by simp
          rw [e7] at hh
          have hmn : m < n := by omega
          rcases five h2 h3 with rfl | rfl | rfl | rfl | rfl <;> rcases five k2 k3 with rfl | rfl | rfl | rfl | rfl <;> simp [enc] at hh <;> omega
    rw [lay (n - 1) (by omega)]
    have hle := enc_length c n h2 h3
    have hl1 : n - 1 < (enc c n).length := by omega
    rw [List.drop_eq_getElem_cons hl1, show n - 1 + 1 = n from by omega, List.drop_of_length_le (by omega), rdg_one, rdg_one]
    refine norm_step ⟨enc c n, ?_, .inr ⟨n, h0, h1, h2, h3, rfl⟩⟩
    rw [List.append_assoc]
    have := List.take_succ_eq_append_getElem hl1
    rw [show n - 1 + 1 = n from by omega, List.take_of_length_le (by omega)] at this
    rw [← this]

/-- Reading a text in which an encoding has been replaced by its byte. -/
theorem rdg_replace {l : List Int} {c : Int} (h : Redex l c) (x y r t : List Int) : Rdg (x ++ (l ++ y)) r t ↔ Rdg (x ++ [c] ++ y) r t := by
  rw [List.append_assoc, rdg_append, rdg_append]
  constructor
  · rintro ⟨m, hx, hly⟩
    obtain ⟨m2, hl, hy⟩ := (rdg_append l y m t).1 hly
    exact ⟨m, hx, (rdg_append [c] y m t).2 ⟨m2, (redex_read h m m2).1 hl, hy⟩⟩
  · rintro ⟨m, hx, hcy⟩
    obtain ⟨m2, hc, hy⟩ := (rdg_append [c] y m t).1 hcy
    exact ⟨m, hx, (rdg_append l y m t).2 ⟨m2, (redex_read h m m2).2 hc, hy⟩⟩

/-- No encoding begins at i. -/
def NoAt (cur : List Int) (i : Nat) : Prop := ∀ l y c, cur.drop i = l ++ y → ¬ Redex l c

/-- A text in which no encoding begins anywhere reads as itself. -/
theorem rdg_self (cur : List Int) (h : ∀ i, i < cur.length → NoAt cur i) : Rdg cur [] cur := by
  suffices hs : ∀ (y x : List Int), cur = x ++ y → Rdg y x cur from hs cur [] rfl
  intro y
  induction y with
  | nil => intro x e; rw [List.append_nil] at e; exact e
  | cons b y ih =>
    intro x e
    have hno : ∀ p c, ¬ Sfx (x ++ [b]) p c := by
      rintro p c ⟨l, hl, hr⟩
      have hlen := hr.len
      have e2 : cur = p ++ (l ++ y) := by rw [e, ← List.append_assoc, ← hl]; simp
      have hp : p.length < cur.length := by rw [e2]; simp; omega
      refine h p.length hp l y c ?_ hr
      rw [e2]; simp
    exact (rdg_cons_none b y x cur hno).2 (ih (x ++ [b]) (by rw [e]; simp))

#print axioms rdg_self
#print axioms rdg_replace
end Go.Proofs.Qxb6601358a.Deep
