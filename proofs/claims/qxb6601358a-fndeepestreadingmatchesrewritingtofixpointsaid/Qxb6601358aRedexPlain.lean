/-
  Plain: which encoding begins at an index.
-/
import Derived.Test.Qxb6601358aDeepPlain
import Derived.Test.Qxb6601358aDotPlain
namespace Go.Proofs.Qxb6601358a.Deep
open Ov

/-- A long encoding of n bytes of an ASCII character begins at i. -/
def OvAt (zs : List Int) (i n : Nat) (c : Int) : Prop := 0 ≤ c ∧ c < 128 ∧ ∃ y, zs.drop i = enc c n ++ y

/-- What zzRedexAtRB1 answers. -/
def ResAt (zs : List Int) (i : Nat) (c : Int) (w : Nat) : Prop :=
  (0 < w ∧ i + w ≤ zs.length ∧ ∃ l y, zs.drop i = l ++ y ∧ Redex l c ∧ l.length = w) ∨ (c = 0 ∧ w = 0 ∧ NoAt zs i)

theorem head_at (zs : List Int) (i : Nat) (_h : i < zs.length) : (zs.drop i).getD 0 0 = zs.getD i 0 := by simp

theorem noAt_of (zs : List Int) (i : Nat) (hi : i < zs.length) (h37 : zs.getD i 0 = 37 → ¬ (i + 2 < zs.length ∧ Hex (zs.getD (i + 1) 0) ∧ Hex (zs.getD (i + 2) 0)))
    (hov : zs.getD i 0 ≠ 37 → ∀ n c, 2 ≤ n → n ≤ 6 → i + n ≤ zs.length → ¬ OvAt zs i n c) : NoAt zs i := by
  intro l y c he hr
  have hlen := congrArg List.length he
  simp only [List.length_drop, List.length_append] at hlen
  rcases hr with ⟨a, b, ha, hb, rfl, rfl⟩ | ⟨n, h0, h1, h2, h3, rfl⟩
  · simp only [List.length_cons, List.length_nil] at hlen
    have e0 := head_at zs i hi
    rw [he] at e0
    have e1 : (zs.drop i).getD 1 0 = zs.getD (i + 1) 0 := by simp
    have e2 : (zs.drop i).getD 2 0 = zs.getD (i + 2) 0 := by simp
    rw [he] at e1 e2
    simp at e0 e1 e2
    refine h37 (by simp [← e0]) ⟨by omega, ?_, ?_⟩
    · have : zs.getD (i + 1) 0 = a := by simp [← e1]
      rw [this]; exact ha
    · have : zs.getD (i + 2) 0 = b := by simp [← e2]
      rw [this]; exact hb
  · have hl := enc_length c n h2 h3
    refine hov ?_ n c h2 h3 (by omega) ⟨h0, h1, y, he⟩
    intro h
    have e0 := head_at zs i hi
    rw [he, h] at e0
    rcases five h2 h3 with rfl | rfl | rfl | rfl | rfl <;> simp [enc] at e0
    omega

theorem res_pct (zs : List Int) (i : Nat) (h : i + 2 < zs.length) (h0 : zs.getD i 0 = 37) (h1 : Hex (zs.getD (i + 1) 0)) (h2 : Hex (zs.getD (i + 2) 0)) :
    ResAt zs i (hv (zs.getD (i + 1) 0) * 16 + hv (zs.getD (i + 2) 0)) 3 := by
  refine .inl ⟨by omega, by omega, [37, zs.getD (i + 1) 0, zs.getD (i + 2) 0], zs.drop (i + 3), ?_, .inl ⟨_, _, h1, h2, rfl, rfl⟩, rfl⟩
  rw [Dot.drop_cons zs i (by omega), h0, Dot.drop_cons zs (i + 1) (by omega), Dot.drop_cons zs (i + 1 + 1) (by omega)]
  rfl

theorem res_ov (zs : List Int) (i n : Nat) (c : Int) (h1 : 2 ≤ n) (h2 : n ≤ 6) (hl : i + n ≤ zs.length) (h : OvAt zs i n c) : ResAt zs i c n := by
  obtain ⟨a, b, y, e⟩ := h
  exact .inl ⟨by omega, hl, enc c n, y, e, .inr ⟨n, a, b, h1, h2, rfl⟩, enc_length c n h1 h2⟩

def leadOf (n : Nat) : Int := if n = 2 then 192 else if n = 3 then 224 else if n = 4 then 240 else if n = 5 then 248 else 252

theorem ovAt_two (zs : List Int) (i : Nat) (hl : i + 2 ≤ zs.length) (c : Int) :
    OvAt zs i 2 c ↔ (zs.getD i 0 = 192 ∨ zs.getD i 0 = 193) ∧ Cont (zs.getD (i + 1) 0) ∧ c = zs.getD i 0 % 2 * 64 + zs.getD (i + 1) 0 % 64 := by
  unfold OvAt Cont
  rw [Dot.drop_cons zs i (by omega), Dot.drop_cons zs (i + 1) (by omega)]
  generalize zs.getD i 0 = a
  generalize zs.getD (i + 1) 0 = b
  simp only [enc, List.cons_append, List.nil_append, List.cons.injEq]
  constructor
  · rintro ⟨h0, h1, y, h2, h3, h4⟩
    omega
  · rintro ⟨h0, h1, h2⟩
    exact ⟨by omega, by omega, _, by omega, by omega, rfl⟩

theorem ovAt_more (zs : List Int) (i n : Nat) (h3 : 3 ≤ n) (h6 : n ≤ 6) (hl : i + n ≤ zs.length) (c : Int) :
    OvAt zs i n c ↔ zs.getD i 0 = leadOf n ∧ (∀ j, 1 ≤ j → j + 3 ≤ n → zs.getD (i + j) 0 = 128) ∧ (zs.getD (i + n - 2) 0 = 128 ∨ zs.getD (i + n - 2) 0 = 129) ∧ Cont (zs.getD (i + n - 1) 0) ∧
      c = zs.getD (i + n - 2) 0 % 2 * 64 + zs.getD (i + n - 1) 0 % 64 := by
  unfold OvAt Cont leadOf
  rcases (show n = 3 ∨ n = 4 ∨ n = 5 ∨ n = 6 by omega) with rfl | rfl | rfl | rfl
  · rw [Dot.drop_cons zs i (by omega), Dot.drop_cons zs (i + 1) (by omega), Dot.drop_cons zs (i + 1 + 1) (by omega)]
    rw [show i + 3 - 2 = i + 1 from by omega, show i + 3 - 1 = i + 1 + 1 from by omega]
    generalize zs.getD i 0 = a
    generalize zs.getD (i + 1) 0 = b
    generalize zs.getD (i + 1 + 1) 0 = d
    simp only [enc, List.cons_append, List.nil_append, List.cons.injEq]
    constructor
    · rintro ⟨h0, h1, y, h2, h3, h4, h5⟩
      exact ⟨by simpa using h2, fun j a b => by omega, by omega, by omega, by omega⟩
    · rintro ⟨h0, _, h1, h2, h3⟩
      exact ⟨by omega, by omega, _, by simpa using h0, by omega, by omega, rfl⟩
  · rw [Dot.drop_cons zs i (by omega), Dot.drop_cons zs (i + 1) (by omega), Dot.drop_cons zs (i + 1 + 1) (by omega), Dot.drop_cons zs (i + 1 + 1 + 1) (by omega)]
    rw [show i + 4 - 2 = i + 1 + 1 from by omega, show i + 4 - 1 = i + 1 + 1 + 1 from by omega]
    have hA : (∀ j, 1 ≤ j → j + 3 ≤ 4 → zs.getD (i + j) 0 = 128) ↔ zs.getD (i + 1) 0 = 128 :=
      ⟨fun h => h 1 (by omega) (by omega), fun h j a b => by obtain rfl : j = 1 := by omega
                                                             exact h⟩
    rw [hA]
    generalize zs.getD i 0 = a
    generalize zs.getD (i + 1) 0 = b
    generalize zs.getD (i + 1 + 1) 0 = d
    generalize zs.getD (i + 1 + 1 + 1) 0 = e
    simp only [enc, List.cons_append, List.nil_append, List.cons.injEq]
    constructor
    · rintro ⟨h0, h1, y, h2, h3, h4, h5, h6⟩
      exact ⟨by simpa using h2, h3, by omega, by omega, by omega⟩
    · rintro ⟨h0, hb, h1, h2, h3⟩
      exact ⟨by omega, by omega, _, by simpa using h0, hb, by omega, by omega, rfl⟩
  · rw [Dot.drop_cons zs i (by omega), Dot.drop_cons zs (i + 1) (by omega), Dot.drop_cons zs (i + 1 + 1) (by omega), Dot.drop_cons zs (i + 1 + 1 + 1) (by omega), Dot.drop_cons zs (i + 1 + 1 + 1 + 1) (by omega)]
    rw [show i + 5 - 2 = i + 1 + 1 + 1 from by omega, show i + 5 - 1 = i + 1 + 1 + 1 + 1 from by omega]
    have hA : (∀ j, 1 ≤ j → j + 3 ≤ 5 → zs.getD (i + j) 0 = 128) ↔ zs.getD (i + 1) 0 = 128 ∧ zs.getD (i + 1 + 1) 0 = 128 := by
      constructor
      · intro h; exact ⟨h 1 (by omega) (by omega), h 2 (by omega) (by omega)⟩
      · rintro ⟨h1, h2⟩ j a b
        rcases (show j = 1 ∨ j = 2 by omega) with rfl | rfl
        · exact h1
        · exact h2
    rw [hA]
    generalize zs.getD i 0 = a
    generalize zs.getD (i + 1) 0 = b
    generalize zs.getD (i + 1 + 1) 0 = d
    generalize zs.getD (i + 1 + 1 + 1) 0 = e
    generalize zs.getD (i + 1 + 1 + 1 + 1) 0 = f
    simp only [enc, List.cons_append, List.nil_append, List.cons.injEq]
    constructor
    · rintro ⟨h0, h1, y, h2, h3, h4, h5, h6, h7⟩
      exact ⟨by simpa using h2, ⟨h3, h4⟩, by omega, by omega, by omega⟩
    · rintro ⟨h0, ⟨hb, hb2⟩, h1, h2, h3⟩
      exact ⟨by omega, by omega, _, by simpa using h0, hb, hb2, by omega, by omega, rfl⟩
  · rw [Dot.drop_cons zs i (by omega), Dot.drop_cons zs (i + 1) (by omega), Dot.drop_cons zs (i + 1 + 1) (by omega), Dot.drop_cons zs (i + 1 + 1 + 1) (by omega), Dot.drop_cons zs (i + 1 + 1 + 1 + 1) (by omega), Dot.drop_cons zs (i + 1 + 1 + 1 + 1 + 1) (by omega)]
    rw [show i + 6 - 2 = i + 1 + 1 + 1 + 1 from by omega, show i + 6 - 1 = i + 1 + 1 + 1 + 1 + 1 from by omega]
    have hA : (∀ j, 1 ≤ j → j + 3 ≤ 6 → zs.getD (i + j) 0 = 128) ↔ zs.getD (i + 1) 0 = 128 ∧ zs.getD (i + 1 + 1) 0 = 128 ∧ zs.getD (i + 1 + 1 + 1) 0 = 128 := by
      constructor
      · intro h; exact ⟨h 1 (by omega) (by omega), h 2 (by omega) (by omega), h 3 (by omega) (by omega)⟩
      · rintro ⟨h1, h2, h3⟩ j a b
        rcases (show j = 1 ∨ j = 2 ∨ j = 3 by omega) with rfl | rfl | rfl
        · exact h1
        · exact h2
        · exact h3
    rw [hA]
    generalize zs.getD i 0 = a
    generalize zs.getD (i + 1) 0 = b
    generalize zs.getD (i + 1 + 1) 0 = d
    generalize zs.getD (i + 1 + 1 + 1) 0 = e
    generalize zs.getD (i + 1 + 1 + 1 + 1) 0 = f
    generalize zs.getD (i + 1 + 1 + 1 + 1 + 1) 0 = g
    simp only [enc, List.cons_append, List.nil_append, List.cons.injEq]
    constructor
    · rintro ⟨h0, h1, y, h2, h3, h4, h5, h6, h7, h8⟩
      exact ⟨by simpa using h2, ⟨h3, h4, h5⟩, by omega, by omega, by omega⟩
    · rintro ⟨h0, ⟨hb, hb2, hb3⟩, h1, h2, h3⟩
      exact ⟨by omega, by omega, _, by simpa using h0, hb, hb2, hb3, by omega, by omega, rfl⟩

#print axioms ovAt_more
end Go.Proofs.Qxb6601358a.Deep
