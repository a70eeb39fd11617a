/-
  FnNewNeedsIsCountOfVersions: the calls made once; what the law's loops read.
-/
import Derived.Test.Qxb6601677aNeedsFn5
namespace Go.Proofs.Qxb6601677a
open Go.RowKit
set_option linter.unusedVariables false

def E4 (Bs j : Nat) : Nat := Bs + 2 * j + 1

/-- After k calls. -/
structure M4 (W7 : World) (base ES n : Nat) (a : Nat → Int) (r o : Nat → ByteArray) (k : Nat) (wx : World) : Prop where
  made : MK W7 (fun b => b = ES) a r o k wx
  es : wx.ownsRow base 23 1 (.slice (some ⟨ES, 0, none⟩) n n) n (ptrR (E4 W7.heap.size) n k)

theorem M4.drew {W7 : World} {base ES n : Nat} {a : Nat → Int} {r o : Nat → ByteArray} {k : Nat} {w : World} (h : M4 W7 base ES n a r o k w) : M4 W7 base ES n a r o k w.drew := ⟨h.made.drew, h.es⟩

theorem one_a {W7 : World} {base ES n : Nat} {a : Nat → Int} {r o : Nat → ByteArray} {k : Nat} {W : World} (h : M4 W7 base ES n a r o k W) (hk : k < n) (h1 : ES < W7.heap.size)
    (x : Int) (p q : ByteArray) (hx : x = a k) (hp : p = r k) (hq : q = o k) (B0 B1 B2 i : Nat) (hB0 : B0 < W7.heap.size) (hB1 : B1 < W7.heap.size) (hB2 : B2 < W7.heap.size)
    (d0 : W.cell? ⟨B0, i, none⟩ = some (.int .i64 x)) (d1 : W.cell? ⟨B1, i, none⟩ = some (.string p)) (d2 : W.cell? ⟨B2, i, none⟩ = some (.string q)) (Ek : Nat) (hE : Ek = E4 W7.heap.size k) :
    Calls Try.prog 14 #[.int .i64 x, .string p, .string q] W fun e w' => e = .returned (.pointer (some ⟨Ek, 0, none⟩)) ∧ NR5 B0 B1 B2 i ES k x p q w' ∧
      Hid (M4 W7 base ES n a r o (k + 1) (w'.setCell ⟨ES, k, none⟩ (.pointer (some ⟨Ek, 0, none⟩)))) := by
  have hsz := h.made.size
  refine (call_any x p q W).mono ?_
  rintro e w' ⟨rfl, rfl⟩
  refine ⟨by rw [hE, E4, hsz], ⟨?_, ?_, ?_, ?_, ?_⟩, ?_⟩
  · rw [made2_cell _ _ _ _ _ _ (by omega)]; exact d0
  · rw [made2_cell _ _ _ _ _ _ (by omega)]; exact d1
  · rw [made2_cell _ _ _ _ _ _ (by omega)]; exact d2
  · rw [made2_cell _ _ _ _ _ _ (by omega), h.es.cellAt k (by omega)]; exact ptrR_nil _ _ _ hk
  · rw [made2_frozen _ _ _ _ _ _ (by omega)]; exact h.es.frozenAt k
  · refine ⟨(h.made.make x p q hx hp hq).set (g := ES) rfl h1 k (.pointer (some ⟨Ek, 0, none⟩)), ?_⟩
    have r2 := ((made2_row h.es x p q).stored k (.pointer (some ⟨Ek, 0, none⟩))).1
    rw [hE] at r2 ⊢
    unfold ptrR at r2 ⊢
    rw [cpyR_set (fun j => .pointer (some ⟨E4 W7.heap.size j, 0, none⟩)) _ _ _ hk] at r2
    exact r2

/-- What the law's loops read. -/
structure RD4 (W7 w : World) (base ES n : Nat) (at0 : Nat → Int) (K : Nat → Bool) (V : List Int) (ao bo : Option Addr) : Prop where
  bel : Below base W7 w
  row : ∃ G D, ∀ i, i < V.length → ao = some ⟨G, 0, none⟩ ∧ bo = some ⟨D, 0, none⟩ ∧ w.cell? ⟨G, i, none⟩ = some (.int .i64 (V.getD i 0)) ∧ w.cell? ⟨D, i, none⟩ = some (.int .i64 (((cA at0 K n).count (V.getD i 0) : Nat) : Int))
  ln : ∀ j, j < n → ∃ e1, w.cell? ⟨ES, j, none⟩ = some (.pointer (some ⟨e1, 0, none⟩)) ∧ w.cell? ⟨e1, 8, none⟩ = some (.int .i64 (ndv V (at0 j) (K j)))

theorem call4 {W7 W : World} {base ES n : Nat} {at0 : Nat → Int} {r0 o0 : Nat → ByteArray} (h : M4 W7 base ES n at0 r0 o0 n W) (hES : ES < W7.heap.size) (hbE : base ≤ ES) (hn : n ≤ 4096) (V : List Int) (hV : V = vers (cA at0 (fun j => kd (at0 j) (r0 j) (o0 j)) n)) :
    Calls Try.prog 15 #[.slice (some ⟨ES, 0, none⟩) n n] W fun e w' => ∃ ao cp bo dp, e = .returned (.tuple #[.slice ao V.length cp, .slice bo V.length dp, .int .i64 0]) ∧
      Hid (RD4 W7 w' base ES n at0 (fun j => kd (at0 j) (r0 j) (o0 j)) V ao bo) := by
  have hsz := h.made.size
  have hp : NPre W ES n (E4 W7.heap.size) (fun j => W7.heap.size + 2 * j) at0 r0 o0 := by
    refine npre_of h.es (fun j hj => ?_) (fun j hj => ?_) (fun i j hi hj e => ?_) (fun i j hi hj => ?_) (fun i hi => ?_)
    · exact h.made.op j (by omega)
    · exact h.made.en j (by omega)
    · unfold E4 at e; omega
    · unfold E4; omega
    · unfold E4; omega
  refine (zzNeeds_any ES n _ _ at0 r0 o0 W hn hp).mono ?_
  rintro e w' ⟨vV, vC, rfl, hN⟩
  rw [← hV] at hN
  obtain ⟨ao, cp, rfl, _, _⟩ := own_slice hN.rv
  obtain ⟨bo, dp, rfl, _, _⟩ := own_slice hN.rc
  have hs' := hN.size
  refine ⟨ao, cp, bo, dp, rfl, ⟨hN.os.trans h.made.os, hN.tape.trans h.made.tape, hN.output.trans h.made.output, by omega, ?_⟩, ?_, ?_⟩
  · intro b hb
    rw [hN.keep b (by omega) (fun j _ => by unfold E4; omega)]
    exact h.made.keep b (by omega) (by show ¬ b = ES; omega)
  · obtain ⟨G, g1⟩ := row_read hN.rv
    obtain ⟨D, g2⟩ := row_read hN.rc
    refine ⟨G, D, fun i hi => ?_⟩
    obtain ⟨a1, a2, _⟩ := g1 i hi
    obtain ⟨b1, b2, _⟩ := g2 i hi
    refine ⟨a1, b1, by rw [a2]; simp [hi], by rw [b2, cntRow_get _ _ _ hi]⟩
  · intro j hj
    refine ⟨E4 W7.heap.size j, ?_, hN.n1 j hj⟩
    rw [World.cell?_of_block (w := W) (a := ⟨ES, j, none⟩) (hN.keep ES (by omega) (fun j _ => by unfold E4; omega)), h.es.cellAt j (by omega)]
    exact cpyR_get _ _ _ _ hj

/-- The plain facts on the versions. -/
structure VF (n : Nat) (at0 : Nat → Int) (K : Nat → Bool) (V : List Int) : Prop where
  len : V.length ≤ n
  asc : ∀ i, i + 1 < V.length → V.getD i 0 < V.getD (i + 1) 0
  nd1 : ∀ j, j < n → K j = true → ∃ ix, ndv V (at0 j) (K j) = ((ix : Nat) : Int) ∧ ix < V.length ∧ V.getD ix 0 = at0 j
  nd0 : ∀ j, j < n → K j = false → ndv V (at0 j) (K j) = -1
  pos : ∀ i, i < V.length → 0 < (cA at0 K n).count (V.getD i 0)

theorem vf (n : Nat) (at0 : Nat → Int) (K : Nat → Bool) : VF n at0 K (vers (cA at0 K n)) := by
  obtain ⟨h1, h2⟩ := vers_facts (cA at0 K n)
  have hp := List.pairwise_iff_getElem.1 h1
  refine ⟨Nat.le_trans (vers_len _) (cA_len _ _ _), ?_, ?_, ?_, ?_⟩
  · intro i hi
    have := hp i (i + 1) (by omega) hi (by omega)
    simpa [List.getD, show i < (vers (cA at0 K n)).length by omega, hi] using this
  · intro j hj hk
    have hm : at0 j ∈ vers (cA at0 K n) := (h2 _).2 ((cA_mem _ _ _ _).2 ⟨j, hj, hk, rfl⟩)
    obtain ⟨a, b⟩ := idx_facts h1 hm
    exact ⟨_, by rw [ndv, if_pos hk], a, b⟩
  · intro j hj hk
    rw [ndv, hk]
    rfl
  · intro i hi
    apply List.count_pos_iff.2
    apply (h2 _).1
    rw [List.getD_eq_getElem?_getD, List.getElem?_eq_getElem hi]
    exact List.getElem_mem _

theorem cA_count_le (at0 : Nat → Int) (K : Nat → Bool) (k : Nat) (x : Int) : (cA at0 K k).count x ≤ k := Nat.le_trans List.count_le_length (cA_len _ _ _)
theorem cA_count_yes (at0 : Nat → Int) (K : Nat → Bool) (k : Nat) (x : Int) (h1 : K k = true) (h2 : at0 k = x) : (cA at0 K (k + 1)).count x = (cA at0 K k).count x + 1 := by
  simp [cA, h1, h2, List.count_append]
theorem cA_count_no (at0 : Nat → Int) (K : Nat → Bool) (k : Nat) (x : Int) (h : K k = false ∨ ¬ at0 k = x) : (cA at0 K (k + 1)).count x = (cA at0 K k).count x := by
  rcases h with h | h
  · simp [cA, h]
  · cases hk : K k with
    | false => simp [cA, hk]
    | true => simp [cA, hk, List.count_append, h]

end Go.Proofs.Qxb6601677a
