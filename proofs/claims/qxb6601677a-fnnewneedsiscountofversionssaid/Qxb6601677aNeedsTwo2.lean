/-
  FnNewNeedsOrderFree: the two calls of ZZNewNeeds.
-/
import Derived.Test.Qxb6601677aNeedsTwo
namespace Go.Proofs.Qxb6601677a
open Go.RowKit
set_option linter.unusedVariables false

theorem vers_len (A : List Int) : (vers A).length ≤ A.length := by
  have := Lib.compact_length_le (A.mergeSort fun x y => decide (x ≤ y))
  simpa [vers] using this

theorem cntRow_perm {V A B : List Int} (h : A.Perm B) : cntRow V A = cntRow V B := by
  unfold cntRow
  apply List.map_congr_left
  intro x _
  rw [h.count_eq]

/-- What the law's loops read. -/
structure RD (W7 w : World) (base ES FS n L : Nat) (ao bo ao2 bo2 : Option Addr) : Prop where
  bel : Below base W7 w
  lv : ∃ G1 G2, ∀ i, i < L → ao = some ⟨G1, 0, none⟩ ∧ ao2 = some ⟨G2, 0, none⟩ ∧ ∃ x, w.cell? ⟨G1, i, none⟩ = some (.int .i64 x) ∧ w.cell? ⟨G2, i, none⟩ = some (.int .i64 x)
  lc : ∃ G1 G2, ∀ i, i < L → bo = some ⟨G1, 0, none⟩ ∧ bo2 = some ⟨G2, 0, none⟩ ∧ ∃ x, w.cell? ⟨G1, i, none⟩ = some (.int .i64 x) ∧ w.cell? ⟨G2, i, none⟩ = some (.int .i64 x)
  ln : ∀ j, j < n → ∃ e1 e2 x, w.cell? ⟨ES, j, none⟩ = some (.pointer (some ⟨e1, 0, none⟩)) ∧ w.cell? ⟨FS, n - 1 - j, none⟩ = some (.pointer (some ⟨e2, 0, none⟩)) ∧ w.cell? ⟨e1, 8, none⟩ = some (.int .i64 x) ∧ w.cell? ⟨e2, 8, none⟩ = some (.int .i64 x)

variable {W7 W : World} {base ES FS n : Nat} {at0 : Nat → Int} {r0 o0 : Nat → ByteArray}

theorem call1 (h : M5 W7 base ES FS n (fun i => at0 (idx5 n i)) (fun i => r0 (idx5 n i)) (fun i => o0 (idx5 n i)) n n W) (hES : ES < W7.heap.size) (hn : n ≤ 4096) :
    Calls Try.prog 15 #[.slice (some ⟨ES, 0, none⟩) n n] W fun e w' => ∃ ao cp bo dp, e = .returned (.tuple #[.slice ao (vers (cA at0 (fun j => kd (at0 j) (r0 j) (o0 j)) n)).length cp, .slice bo (vers (cA at0 (fun j => kd (at0 j) (r0 j) (o0 j)) n)).length dp, .int .i64 0]) ∧
      Hid (N2 W W.heap.size n (E1 W7.heap.size) at0 (fun j => kd (at0 j) (r0 j) (o0 j)) (vers (cA at0 (fun j => kd (at0 j) (r0 j) (o0 j)) n)) (.slice ao (vers (cA at0 (fun j => kd (at0 j) (r0 j) (o0 j)) n)).length cp) (.slice bo (vers (cA at0 (fun j => kd (at0 j) (r0 j) (o0 j)) n)).length dp) n w') := by
  have hp : NPre W ES n (E1 W7.heap.size) (fun j => W7.heap.size + 2 * (2 * j)) at0 r0 o0 := by
    refine npre_of h.es (fun j hj => ?_) (fun j hj => ?_) (fun i j hi hj e => ?_) (fun i j hi hj => ?_) (fun i hi => ?_)
    · rw [h.made.op (2 * j) (by omega), idx5_even]
    · unfold E1
      rw [h.made.en (2 * j) (by omega), idx5_even]
    · unfold E1 at e; omega
    · unfold E1; omega
    · unfold E1; omega
  refine (zzNeeds_any ES n _ _ at0 r0 o0 W hn hp).mono ?_
  rintro e w' ⟨vV, vC, rfl, hN⟩
  obtain ⟨ao, cp, rfl, _, _⟩ := own_slice hN.rv
  obtain ⟨bo, dp, rfl, _, _⟩ := own_slice hN.rc
  exact ⟨ao, cp, bo, dp, rfl, hN⟩

theorem call2 (h : M5 W7 base ES FS n (fun i => at0 (idx5 n i)) (fun i => r0 (idx5 n i)) (fun i => o0 (idx5 n i)) n n W) (hES : ES < W7.heap.size) (hFS : FS < W7.heap.size) (hbE : base ≤ ES) (hbF : base ≤ FS) (hn : n ≤ 4096)
    (V : List Int) (hV : V = vers (cA at0 (fun j => kd (at0 j) (r0 j) (o0 j)) n)) (ao bo : Option Addr) (cp dp : Nat) (w9 : World)
    (h9 : N2 W W.heap.size n (E1 W7.heap.size) at0 (fun j => kd (at0 j) (r0 j) (o0 j)) V (.slice ao V.length cp) (.slice bo V.length dp) n w9) :
    Calls Try.prog 15 #[.slice (some ⟨FS, 0, none⟩) n n] w9 fun e w' => ∃ ao2 cp2 bo2 dp2, e = .returned (.tuple #[.slice ao2 V.length cp2, .slice bo2 V.length dp2, .int .i64 0]) ∧ Hid (RD W7 w' base ES FS n V.length ao bo ao2 bo2) := by
  have hsz := h.made.size
  have hs9 := h9.size
  have k9 : ∀ b, b < W.heap.size → (∀ j, j < n → b ≠ E1 W7.heap.size j) → w9.heap[b]? = W.heap[b]? := h9.keep
  have hp : NPre w9 FS n (E2 W7.heap.size) (fun j => W7.heap.size + 2 * (2 * j + 1)) (fun j => at0 (n - 1 - j)) (fun j => r0 (n - 1 - j)) (fun j => o0 (n - 1 - j)) := by
    refine npre_of (row_block h.fs (fun b hb => ?_)) (fun j hj => ?_) (fun j hj => ?_) (fun i j hi hj e => ?_) (fun i j hi hj => ?_) (fun i hi => ?_)
    · simp only [Value.ownBlock, Option.some.injEq] at hb
      subst hb
      exact k9 _ (by omega) (fun j _ => by unfold E1; omega)
    · rw [k9 _ (by omega) (fun j _ => by unfold E1; omega), h.made.op (2 * j + 1) (by omega), idx5_odd]
    · unfold E2
      rw [k9 _ (by omega) (fun j _ => by unfold E1; omega), h.made.en (2 * j + 1) (by omega), idx5_odd]
    · unfold E2 at e; omega
    · unfold E2; omega
    · unfold E2; omega
  refine (zzNeeds_any FS n _ _ _ _ _ w9 hn hp).mono ?_
  rintro e w' ⟨vV, vC, rfl, hN⟩
  have hpm := cA_rev at0 (fun j => kd (at0 j) (r0 j) (o0 j)) n
  rw [vers_perm hpm, ← hV] at hN
  obtain ⟨ao2, cp2, rfl, _, _⟩ := own_slice hN.rv
  obtain ⟨bo2, dp2, rfl, _, _⟩ := own_slice hN.rc
  refine ⟨ao2, cp2, bo2, dp2, rfl, ?_⟩
  have hs10 := hN.size
  have k10 : ∀ b, b < w9.heap.size → (∀ j, j < n → b ≠ E2 W7.heap.size j) → w'.heap[b]? = w9.heap[b]? := hN.keep
  have row1 : ∀ {e : TypeId} {v : Value} {m : Nat} {xs : List Value}, w9.ownsRow W.heap.size e 1 v m xs → w'.ownsRow W.heap.size e 1 v m xs := fun {e v m xs} hv => row_block hv fun b hb => by
    obtain ⟨q1, q2⟩ := hv.lt b hb
    exact k10 b q2 (fun j hj => by unfold E2; omega)
  refine ⟨⟨?_, ?_, ?_, ?_, ?_⟩, ?_, ?_, ?_⟩
  · exact hN.os.trans (h9.os.trans h.made.os)
  · exact hN.tape.trans (h9.tape.trans h.made.tape)
  · exact hN.output.trans (h9.output.trans h.made.output)
  · omega
  · intro b hb
    rw [k10 b (by omega) (fun j _ => by unfold E2; omega), k9 b (by omega) (fun j _ => by unfold E1; omega)]
    exact h.made.keep b (by omega) (by rintro (rfl | rfl) <;> omega)
  · obtain ⟨G1, g1⟩ := row_read (row1 h9.rv)
    obtain ⟨G2, g2⟩ := row_read hN.rv
    refine ⟨G1, G2, fun i hi => ?_⟩
    obtain ⟨a1, a2, _⟩ := g1 i hi
    obtain ⟨b1, b2, _⟩ := g2 i hi
    exact ⟨a1, b1, V[i], by rw [a2]; simp [hi], by rw [b2]; simp [hi]⟩
  · obtain ⟨G1, g1⟩ := row_read (row1 h9.rc)
    obtain ⟨G2, g2⟩ := row_read hN.rc
    refine ⟨G1, G2, fun i hi => ?_⟩
    obtain ⟨a1, a2, _⟩ := g1 i hi
    obtain ⟨b1, b2, _⟩ := g2 i hi
    rw [cntRow_perm hpm] at b2
    rw [cntRow_get _ _ _ hi] at a2 b2
    exact ⟨a1, b1, _, a2, b2⟩
  · intro j hj
    have e1 : w'.cell? ⟨ES, j, none⟩ = W.cell? ⟨ES, j, none⟩ := (World.cell?_of_block (w := w9) (a := ⟨ES, j, none⟩) (k10 ES (by omega) (fun j _ => by unfold E2; omega))).trans (World.cell?_of_block (w := W) (a := ⟨ES, j, none⟩) (k9 ES (by omega) (fun j _ => by unfold E1; omega)))
    have e2 : w'.cell? ⟨FS, n - 1 - j, none⟩ = W.cell? ⟨FS, n - 1 - j, none⟩ := (World.cell?_of_block (w := w9) (a := ⟨FS, n - 1 - j, none⟩) (k10 FS (by omega) (fun j _ => by unfold E2; omega))).trans (World.cell?_of_block (w := W) (a := ⟨FS, n - 1 - j, none⟩) (k9 FS (by omega) (fun j _ => by unfold E1; omega)))
    have e3 : w'.cell? ⟨E1 W7.heap.size j, 8, none⟩ = w9.cell? ⟨E1 W7.heap.size j, 8, none⟩ := World.cell?_of_block (w := w9) (a := ⟨E1 W7.heap.size j, 8, none⟩) (k10 (E1 W7.heap.size j) (by unfold E1; omega) (fun i _ => by unfold E1 E2; omega))
    refine ⟨E1 W7.heap.size j, E2 W7.heap.size (n - 1 - j), _, ?_, ?_, e3.trans (h9.n1 j hj), ?_⟩
    · rw [e1, h.es.cellAt j (by omega)]
      exact cpyR_get _ _ _ _ hj
    · rw [e2, h.fs.cellAt (n - 1 - j) (by omega)]
      exact cpyR_get _ _ _ _ (by omega)
    · rw [hN.n1 (n - 1 - j) (by omega)]
      simp only [show n - 1 - (n - 1 - j) = j by omega]

end Go.Proofs.Qxb6601677a
