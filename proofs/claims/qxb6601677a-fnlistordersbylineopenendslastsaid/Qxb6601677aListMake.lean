/-
  The third loop of FnListOrdersByLineOpenEndsLast: the invocations and their ends are made.
-/
import Derived.Test.Qxb6601677aListRank
namespace Go.Proofs.Qxb6601677a
open Go.RowKit
set_option linter.unusedVariables false

def rowP (f : Nat → Nat) (n k : Nat) : List Value := (List.range k).map (fun j => .pointer (some ⟨f j, 0, none⟩)) ++ List.replicate (n - k) (.pointer none)

theorem rowP_set (f : Nat → Nat) (n k : Nat) (hk : k < n) : (rowP f n k).set k (.pointer (some ⟨f k, 0, none⟩)) = rowP f n (k + 1) := by
  unfold rowP
  have h1 : ((List.range k).map (fun j => Value.pointer (some ⟨f j, 0, none⟩))).length = k := by simp
  rw [List.set_append_right _ _ (by omega), h1, Nat.sub_self, show n - k = (n - (k + 1)) + 1 by omega, List.replicate_succ, List.set_cons_zero, List.range_succ]
  simp

theorem rowP_get (f : Nat → Nat) (n j : Nat) (hj : j < n) : (rowP f n n)[j]? = some (.pointer (some ⟨f j, 0, none⟩)) := by
  simp [rowP, hj]

/-- The three blocks that ZZNewListCall makes. -/
def made3 (w : World) (c r : Int) : World :=
  ((w.alloc (.cells #[.string ByteArray.empty, .string ByteArray.empty, .string ByteArray.empty, .string ByteArray.empty, .string ByteArray.empty, .int .i64 0, .string ByteArray.empty, .string ByteArray.empty, .int .i64 0, .int .i64 c, .int .i64 r] 52)).alloc
        (.cells #[.pointer (some ⟨w.heap.size, 0, none⟩), .pointer none, .pointer none, .pointer none, .string ByteArray.empty, .int .u64 0, .int .u64 0, .int .i64 0, .int .i64 0, .int .i64 0] 57)).alloc
        (.cells #[.pointer (some ⟨w.heap.size, 0, none⟩), .pointer (some ⟨w.heap.size + 1, 0, none⟩), .pointer none, .pointer none, .string ByteArray.empty, .int .u64 0, .int .u64 0, .int .i64 0, .int .i64 0, .int .i64 0] 57)

theorem made3_size (w : World) (c r : Int) : (made3 w c r).heap.size = w.heap.size + 3 := by simp [made3]
theorem made3_old (w : World) (c r : Int) (b : Nat) (hb : b < w.heap.size) : (made3 w c r).heap[b]? = w.heap[b]? := by
  unfold made3
  rw [Below.heap_alloc _ _ _ (by simp; omega), Below.heap_alloc _ _ _ (by simp; omega), Below.heap_alloc _ _ _ hb]
theorem made3_cell (w : World) (c r : Int) (b o : Nat) (hb : b < w.heap.size) : (made3 w c r).cell? ⟨b, o, none⟩ = w.cell? ⟨b, o, none⟩ := World.cell?_of_block (w := w) (a := ⟨b, o, none⟩) (made3_old w c r b hb)
theorem made3_frozen (w : World) (c r : Int) (b o : Nat) (hb : b < w.heap.size) : (made3 w c r).frozen? ⟨b, o, none⟩ = w.frozen? ⟨b, o, none⟩ := World.frozen?_of_block (w := w) (a := ⟨b, o, none⟩) (made3_old w c r b hb)

theorem made3_new (w : World) (c r : Int) : (∀ o, (made3 w c r).cell? ⟨w.heap.size, o, none⟩ = #[Value.string ByteArray.empty, .string ByteArray.empty, .string ByteArray.empty, .string ByteArray.empty, .string ByteArray.empty, .int .i64 0, .string ByteArray.empty, .string ByteArray.empty, .int .i64 0, .int .i64 c, .int .i64 r][o]?) ∧
    (∀ o, (made3 w c r).cell? ⟨w.heap.size + 1, o, none⟩ = #[Value.pointer (some ⟨w.heap.size, 0, none⟩), .pointer none, .pointer none, .pointer none, .string ByteArray.empty, .int .u64 0, .int .u64 0, .int .i64 0, .int .i64 0, .int .i64 0][o]?) ∧
    (∀ o, (made3 w c r).cell? ⟨w.heap.size + 2, o, none⟩ = #[Value.pointer (some ⟨w.heap.size, 0, none⟩), .pointer (some ⟨w.heap.size + 1, 0, none⟩), .pointer none, .pointer none, .string ByteArray.empty, .int .u64 0, .int .u64 0, .int .i64 0, .int .i64 0, .int .i64 0][o]?) ∧
    (∀ o, (made3 w c r).frozen? ⟨w.heap.size + 1, o, none⟩ = false) ∧ (∀ o, (made3 w c r).frozen? ⟨w.heap.size + 2, o, none⟩ = false) := by
  have key : ∀ {w' : World} {b : Nat} {C : Array Value} {t : TypeId}, w'.heap[b]? = some (.cells C t) → (∀ o, w'.cell? ⟨b, o, none⟩ = C[o]?) ∧ ∀ o, w'.frozen? ⟨b, o, none⟩ = false := by
    intro w' b C t h
    exact ⟨fun o => by simp [World.cell?, h], fun o => by simp [World.frozen?, h]⟩
  have g1 : (made3 w c r).heap[w.heap.size]? = some (.cells #[.string ByteArray.empty, .string ByteArray.empty, .string ByteArray.empty, .string ByteArray.empty, .string ByteArray.empty, .int .i64 0, .string ByteArray.empty, .string ByteArray.empty, .int .i64 0, .int .i64 c, .int .i64 r] 52) := by
    unfold made3
    rw [Below.heap_alloc _ _ _ (by simp; omega), Below.heap_alloc _ _ _ (by simp)]
    exact heap_alloc_new w _
  have g2 : (made3 w c r).heap[w.heap.size + 1]? = some (.cells #[.pointer (some ⟨w.heap.size, 0, none⟩), .pointer none, .pointer none, .pointer none, .string ByteArray.empty, .int .u64 0, .int .u64 0, .int .i64 0, .int .i64 0, .int .i64 0] 57) := by
    unfold made3
    rw [Below.heap_alloc _ _ _ (by simp)]
    have := heap_alloc_new (w.alloc (.cells #[.string ByteArray.empty, .string ByteArray.empty, .string ByteArray.empty, .string ByteArray.empty, .string ByteArray.empty, .int .i64 0, .string ByteArray.empty, .string ByteArray.empty, .int .i64 0, .int .i64 c, .int .i64 r] 52)) (.cells #[.pointer (some ⟨w.heap.size, 0, none⟩), .pointer none, .pointer none, .pointer none, .string ByteArray.empty, .int .u64 0, .int .u64 0, .int .i64 0, .int .i64 0, .int .i64 0] 57)
    simpa using this
  have g3 : (made3 w c r).heap[w.heap.size + 2]? = some (.cells #[.pointer (some ⟨w.heap.size, 0, none⟩), .pointer (some ⟨w.heap.size + 1, 0, none⟩), .pointer none, .pointer none, .string ByteArray.empty, .int .u64 0, .int .u64 0, .int .i64 0, .int .i64 0, .int .i64 0] 57) := by
    unfold made3
    have := heap_alloc_new ((w.alloc (.cells #[.string ByteArray.empty, .string ByteArray.empty, .string ByteArray.empty, .string ByteArray.empty, .string ByteArray.empty, .int .i64 0, .string ByteArray.empty, .string ByteArray.empty, .int .i64 0, .int .i64 c, .int .i64 r] 52)).alloc (.cells #[.pointer (some ⟨w.heap.size, 0, none⟩), .pointer none, .pointer none, .pointer none, .string ByteArray.empty, .int .u64 0, .int .u64 0, .int .i64 0, .int .i64 0, .int .i64 0] 57)) (.cells #[.pointer (some ⟨w.heap.size, 0, none⟩), .pointer (some ⟨w.heap.size + 1, 0, none⟩), .pointer none, .pointer none, .string ByteArray.empty, .int .u64 0, .int .u64 0, .int .i64 0, .int .i64 0, .int .i64 0] 57)
    simpa using this
  exact ⟨(key g1).1, (key g2).1, (key g3).1, (key g2).2, (key g3).2⟩

/-- After k rounds. -/
structure L3 (W7 : World) (base ES EN n : Nat) (cs rs : List Int) (k : Nat) (wx : World) : Prop where
  os : wx.os = W7.os
  tape : wx.tape = W7.tape
  output : wx.output = W7.output
  size : wx.heap.size = W7.heap.size + 3 * k
  keep : ∀ b, b < W7.heap.size → b ≠ ES → b ≠ EN → wx.heap[b]? = W7.heap[b]?
  es : wx.ownsRow base 23 1 (.slice (some ⟨ES, 0, none⟩) n n) n (rowP (Ls.E W7.heap.size) n k)
  en : wx.ownsRow base 23 1 (.slice (some ⟨EN, 0, none⟩) n n) n (rowP (Ls.N W7.heap.size) n k)
  eo : ∀ j, j < k → wx.cell? ⟨Ls.E W7.heap.size j, 0, none⟩ = some (.pointer (some ⟨W7.heap.size + 3 * j, 0, none⟩)) ∧ wx.cell? ⟨Ls.E W7.heap.size j, 1, none⟩ = some (.pointer (some ⟨Ls.N W7.heap.size j, 0, none⟩)) ∧ wx.cell? ⟨W7.heap.size + 3 * j, 9, none⟩ = some (.int .i64 (cs.getD j 0)) ∧ wx.cell? ⟨W7.heap.size + 3 * j, 10, none⟩ = some (.int .i64 (rs.getD j 0)) ∧
    ∀ b, (b = Ls.E W7.heap.size j ∨ b = Ls.N W7.heap.size j) → wx.cell? ⟨b, 2, none⟩ = some (.pointer none) ∧ wx.cell? ⟨b, 3, none⟩ = some (.pointer none) ∧ ∀ o, wx.frozen? ⟨b, o, none⟩ = false

theorem L3.step {W7 : World} {base ES EN n : Nat} {cs rs : List Int} {k : Nat} {w : World} (h : L3 W7 base ES EN n cs rs k w) (hk : k < n) (h1 : ES < W7.heap.size) (h2 : EN < W7.heap.size) (hne : ES ≠ EN) (x y : Int) (hx : x = cs.getD k 0) (hy : y = rs.getD k 0) (W : World)
    (hW : W = (((made3 w x y).setCell ⟨ES, k, none⟩ (.pointer (some ⟨Ls.E W7.heap.size k, 0, none⟩))).setCell ⟨EN, k, none⟩ (.pointer (some ⟨Ls.N W7.heap.size k, 0, none⟩)))) : L3 W7 base ES EN n cs rs (k + 1) W := by
  subst hx hy
  have hsz := h.size
  have old : ∀ b, b < w.heap.size → b ≠ ES → b ≠ EN → W.heap[b]? = w.heap[b]? := by
    intro b hb e1 e2
    rw [hW, Below.heap_setCell _ _ _ _ e2, Below.heap_setCell _ _ _ _ e1, made3_old _ _ _ _ hb]
  have nw : ∀ b, w.heap.size ≤ b → W.heap[b]? = (made3 w (cs.getD k 0) (rs.getD k 0)).heap[b]? := by
    intro b hb
    rw [hW, Below.heap_setCell _ _ _ _ (by show b ≠ EN; omega), Below.heap_setCell _ _ _ _ (by show b ≠ ES; omega)]
  have oc : ∀ b o, b < w.heap.size → b ≠ ES → b ≠ EN → W.cell? ⟨b, o, none⟩ = w.cell? ⟨b, o, none⟩ := fun b o hb e1 e2 => World.cell?_of_block (w := w) (a := ⟨b, o, none⟩) (old b hb e1 e2)
  have of : ∀ b o, b < w.heap.size → b ≠ ES → b ≠ EN → W.frozen? ⟨b, o, none⟩ = w.frozen? ⟨b, o, none⟩ := fun b o hb e1 e2 => World.frozen?_of_block (w := w) (a := ⟨b, o, none⟩) (old b hb e1 e2)
  have nc : ∀ b o, w.heap.size ≤ b → W.cell? ⟨b, o, none⟩ = (made3 w (cs.getD k 0) (rs.getD k 0)).cell? ⟨b, o, none⟩ := fun b o hb => World.cell?_of_block (w := made3 w (cs.getD k 0) (rs.getD k 0)) (a := ⟨b, o, none⟩) (nw b hb)
  have nf : ∀ b o, w.heap.size ≤ b → W.frozen? ⟨b, o, none⟩ = (made3 w (cs.getD k 0) (rs.getD k 0)).frozen? ⟨b, o, none⟩ := fun b o hb => World.frozen?_of_block (w := made3 w (cs.getD k 0) (rs.getD k 0)) (a := ⟨b, o, none⟩) (nw b hb)
  obtain ⟨m1, m2, m3, m4, m5⟩ := made3_new w (cs.getD k 0) (rs.getD k 0)
  have hE : Ls.E W7.heap.size k = w.heap.size + 2 := by unfold Ls.E; omega
  have hN : Ls.N W7.heap.size k = w.heap.size + 1 := by unfold Ls.N; omega
  have hP : W7.heap.size + 3 * k = w.heap.size := by omega
  refine ⟨by rw [hW]; exact h.os, by rw [hW]; exact h.tape, by rw [hW]; exact h.output, by rw [hW]; simp [made3_size]; omega, ?_, ?_, ?_, ?_⟩
  · intro b hb e1 e2
    rw [old b (by omega) e1 e2]
    exact h.keep b hb e1 e2
  · have r1 : (made3 w (cs.getD k 0) (rs.getD k 0)).ownsRow base 23 1 (.slice (some ⟨ES, 0, none⟩) n n) n (rowP (Ls.E W7.heap.size) n k) := ((h.es.alloc _).alloc _).alloc _
    have r2 := (r1.stored k (.pointer (some ⟨Ls.E W7.heap.size k, 0, none⟩))).1
    rw [rowP_set _ _ _ hk] at r2
    rw [hW]
    exact ownsRow_setCell_other r2 (by simp [Value.ownBlock]; exact hne) _
  · have r1 : (made3 w (cs.getD k 0) (rs.getD k 0)).ownsRow base 23 1 (.slice (some ⟨EN, 0, none⟩) n n) n (rowP (Ls.N W7.heap.size) n k) := ((h.en.alloc _).alloc _).alloc _
    have r0 := ownsRow_setCell_other r1 (a := ⟨ES, k, none⟩) (by simp [Value.ownBlock]; exact fun e => hne e.symm) (.pointer (some ⟨Ls.E W7.heap.size k, 0, none⟩))
    have r2 := (r0.stored k (.pointer (some ⟨Ls.N W7.heap.size k, 0, none⟩))).1
    rw [rowP_set _ _ _ hk] at r2
    rw [hW]
    exact r2
  · intro j hj
    by_cases hjk : j = k
    · subst hjk
      refine ⟨?_, ?_, ?_, ?_, ?_⟩
      · rw [hE, nc _ _ (by omega), m3, hP]; rfl
      · rw [hE, hN, nc _ _ (by omega), m3]; rfl
      · rw [hP, nc _ _ (by omega), m1]; rfl
      · rw [hP, nc _ _ (by omega), m1]; rfl
      · rintro b (hb | hb)
        · rw [hE] at hb; subst hb
          refine ⟨by rw [nc _ _ (by omega), m3]; rfl, by rw [nc _ _ (by omega), m3]; rfl, fun o => by rw [nf _ _ (by omega)]; exact m5 o⟩
        · rw [hN] at hb; subst hb
          refine ⟨by rw [nc _ _ (by omega), m2]; rfl, by rw [nc _ _ (by omega), m2]; rfl, fun o => by rw [nf _ _ (by omega)]; exact m4 o⟩
    · obtain ⟨q1, q2, q3, q4, q5⟩ := h.eo j (by omega)
      have l1 : Ls.E W7.heap.size j < w.heap.size := by unfold Ls.E; omega
      have l2 : Ls.N W7.heap.size j < w.heap.size := by unfold Ls.N; omega
      have g1 : W7.heap.size ≤ Ls.E W7.heap.size j := by unfold Ls.E; omega
      have g2 : W7.heap.size ≤ Ls.N W7.heap.size j := by unfold Ls.N; omega
      refine ⟨by rw [oc _ _ l1 (by omega) (by omega)]; exact q1, by rw [oc _ _ l1 (by omega) (by omega)]; exact q2, by rw [oc _ _ (by omega) (by omega) (by omega)]; exact q3, by rw [oc _ _ (by omega) (by omega) (by omega)]; exact q4, ?_⟩
      intro b hb
      obtain ⟨p1, p2, p3⟩ := q5 b hb
      have hb1 : b < w.heap.size ∧ W7.heap.size ≤ b := by rcases hb with rfl | rfl; exact ⟨l1, g1⟩; exact ⟨l2, g2⟩
      exact ⟨by rw [oc _ _ hb1.1 (by omega) (by omega)]; exact p1, by rw [oc _ _ hb1.1 (by omega) (by omega)]; exact p2, fun o => by rw [of _ _ hb1.1 (by omega) (by omega)]; exact p3 o⟩

theorem L3.drew {W7 : World} {base ES EN n : Nat} {cs rs : List Int} {k : Nat} {w : World} (h : L3 W7 base ES EN n cs rs k w) : L3 W7 base ES EN n cs rs k w.drew :=
  ⟨h.os, h.tape, h.output, h.size, h.keep, h.es, h.en, h.eo⟩

theorem rowP_nil (f : Nat → Nat) (n k : Nat) (hk : k < n) : (rowP f n k)[k]? = some (.pointer none) := by
  unfold rowP
  rw [List.getElem?_append_right (by simp)]
  simp only [List.length_map, List.length_range, Nat.sub_self]
  rw [List.getElem?_replicate, if_pos (by omega)]

/-- The world behind ZZNewListCall, in the third loop's round. -/
structure NR (B0 B1 ES EN k Ek Nk : Nat) (x y : Int) (w : World) : Prop where
  c0 : w.cell? ⟨B0, k, none⟩ = some (.int .i64 x)
  c1 : w.cell? ⟨B1, k, none⟩ = some (.int .i64 y)
  e0 : w.cell? ⟨ES, k, none⟩ = some (.pointer none)
  ef : w.frozen? ⟨ES, k, none⟩ = false
  n0 : w.cell? ⟨EN, k, none⟩ = some (.pointer none)
  nf : w.frozen? ⟨EN, k, none⟩ = false
  ee : w.cell? ⟨Ek, 1, none⟩ = some (.pointer (some ⟨Nk, 0, none⟩))

theorem new_round {W7 : World} {base ES EN n B0 B1 : Nat} {cs rs : List Int} {k : Nat} {W : World} (h : L3 W7 base ES EN n cs rs k W) (hk : k < n) (h1 : ES < W7.heap.size) (h2 : EN < W7.heap.size) (hne : ES ≠ EN) (x y : Int) (hx : x = cs.getD k 0) (hy : y = rs.getD k 0)
    (hB0 : B0 < W7.heap.size) (hB1 : B1 < W7.heap.size) (d0 : W.cell? ⟨B0, k, none⟩ = some (.int .i64 x)) (d1 : W.cell? ⟨B1, k, none⟩ = some (.int .i64 y)) (Ek Nk : Nat) (hE : Ek = Ls.E W7.heap.size k) (hN : Nk = Ls.N W7.heap.size k) :
    Calls Try.prog 22 #[.int .i64 x, .int .i64 y] W fun e w' => e = .returned (.pointer (some ⟨Ek, 0, none⟩)) ∧ NR B0 B1 ES EN k Ek Nk x y w' ∧
      Hid (L3 W7 base ES EN n cs rs (k + 1) ((w'.setCell ⟨ES, k, none⟩ (.pointer (some ⟨Ek, 0, none⟩))).setCell ⟨EN, k, none⟩ (.pointer (some ⟨Nk, 0, none⟩)))) := by
  have hsz := h.size
  refine (newList_any x y W).mono ?_
  rintro e w' ⟨rfl, hw⟩
  have hw2 : w' = made3 W x y := hw
  subst hw2
  obtain ⟨m1, m2, m3, m4, m5⟩ := made3_new W x y
  refine ⟨by rw [hE]; unfold Ls.E; rw [hsz], ⟨?_, ?_, ?_, ?_, ?_, ?_, ?_⟩, ?_⟩
  · rw [made3_cell _ _ _ _ _ (by omega)]; exact d0
  · rw [made3_cell _ _ _ _ _ (by omega)]; exact d1
  · rw [made3_cell _ _ _ _ _ (by omega), h.es.cellAt k (by omega)]; exact rowP_nil _ _ _ hk
  · rw [made3_frozen _ _ _ _ _ (by omega)]; exact h.es.frozenAt k
  · rw [made3_cell _ _ _ _ _ (by omega), h.en.cellAt k (by omega)]; exact rowP_nil _ _ _ hk
  · rw [made3_frozen _ _ _ _ _ (by omega)]; exact h.en.frozenAt k
  · have e1 : Ek = W.heap.size + 2 := by rw [hE]; unfold Ls.E; omega
    have e2 : Nk = W.heap.size + 1 := by rw [hN]; unfold Ls.N; omega
    rw [e1, e2, m3]; rfl
  · refine h.step hk h1 h2 hne x y hx hy _ ?_
    rw [hE, hN]

/-- What list is told, when all are made. -/
theorem L3.pre {W7 : World} {base ES EN n : Nat} {cs rs : List Int} {w : World} (h : L3 W7 base ES EN n cs rs n w) (h1 : ES < W7.heap.size) : LPre w ES W7.heap.size n cs rs := by
  refine ⟨?_, fun j hj => (h.eo j hj).1, fun j hj => (h.eo j hj).2.1, fun j hj => (h.eo j hj).2.2.1, fun j hj => (h.eo j hj).2.2.2.1, ?_, h1, by rw [h.size]; omega⟩
  · intro j hj
    rw [h.es.cellAt j (by omega), rowP_get _ _ _ hj]
  · rintro b ⟨j, hj, hb⟩
    exact (h.eo j hj).2.2.2.2 b hb

/-- What the law reads of the chain. -/
structure LF (W w : World) (Bs n : Nat) (cs rs : List Int) (H : Nat) (c : Nat → Nat) : Prop where
  c0 : c 0 = H
  bel : Below Bs W w
  h2 : w.cell? ⟨H, 2, none⟩ = some (.pointer none)
  nx : ∀ i, i < 2 * n → w.cell? ⟨c i, 3, none⟩ = some (.pointer (some ⟨c (i + 1), 0, none⟩))
  nxe : w.cell? ⟨c (2 * n), 3, none⟩ = some (.pointer none)
  pv : ∀ i, i < 2 * n → w.cell? ⟨c (i + 1), 2, none⟩ = some (.pointer (some ⟨c i, 0, none⟩))
  lt : ∀ i, i ≤ 2 * n → c i < w.heap.size
  rk : ∀ j, j < n → (Ls.psL cs rs n).countP (fun y => decide (y < cs.getD j 0)) < 2 * n ∧ c ((Ls.psL cs rs n).countP (fun y => decide (y < cs.getD j 0)) + 1) = Ls.E Bs j ∧
    (0 ≤ rs.getD j 0 → (Ls.psL cs rs n).countP (fun y => decide (y < rs.getD j 0)) < 2 * n ∧ c ((Ls.psL cs rs n).countP (fun y => decide (y < rs.getD j 0)) + 1) = Ls.N Bs j) ∧
    (¬ 0 ≤ rs.getD j 0 → (Ls.psL cs rs n).length + (Ls.opn Bs rs j).length < 2 * n ∧ c ((Ls.psL cs rs n).length + (Ls.opn Bs rs j).length + 1) = Ls.N Bs j)

theorem ListPost.facts {W w : World} {Bs n : Nat} {cs rs : List Int} {e : Ending} (h : ListPost W Bs n cs rs e w) (hBs : Bs + 3 * n ≤ W.heap.size) (hc : ∀ j, j < n → 0 ≤ cs.getD j 0)
    (hd : Dist (Ls.psL cs rs n) (Ls.psL cs rs n).length (Ls.psL cs rs n).length) : ∃ (H : Nat) (c : Nat → Nat), e = .returned (.pointer (some ⟨H, 0, none⟩)) ∧ LF W w Bs n cs rs H c := by
  obtain ⟨H, T, L, W2, he, hH, hHw, hp, hs, hb, hI⟩ := h
  refine ⟨H, chn H (L.map (·.2) ++ Ls.opn Bs rs n), he, rfl, ?_, ?_, ?_, ?_, ?_, ?_, fun j hj => chain_rank hc hp hs hd j hj⟩
  · have hz := hb.size
    have hz2 := hI.size
    refine ⟨hI.os.trans hb.os, hI.tape.trans hb.tape, hI.output.trans hb.output, by omega, fun b hb' => ?_⟩
    rw [hI.keep b (by omega) ?_, hb.block b (by omega)]
    intro i hi e'
    by_cases hi0 : i = 0
    · subst hi0
      simp [chn] at e'
      omega
    · obtain ⟨j, hj, h | h⟩ := chn_mem (H := H) hp i (by omega) hi
      · rw [h] at e'; unfold Ls.E at e'; omega
      · rw [h] at e'; unfold Ls.N at e'; omega
  · have := hI.h2
    simpa [chn] using this
  · exact hI.nx1
  · exact hI.nx0 _ (Nat.le_refl _) (Nat.le_refl _)
  · exact hI.pv1
  · intro i hi
    rcases Nat.lt_or_ge i (2 * n) with h | h
    · exact World.block_lt_of_cell? w _ (hI.nx1 i h)
    · exact World.block_lt_of_cell? w _ (hI.nx0 i h hi)

end Go.Proofs.Qxb6601677a
