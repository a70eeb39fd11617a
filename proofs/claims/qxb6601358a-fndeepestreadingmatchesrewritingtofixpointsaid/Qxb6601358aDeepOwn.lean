/-
  The reading under the pen: a slice of the call's own that is appended to; where it fits into the buffer that was handed in it stays there, and the buffer's far end is not touched.
-/
import Derived.Test.Qxb6601358aMem
import Derived.ArgAppend
import Derived.Deep.RegionHeld3
namespace Go.Proofs.Qxb6601358a
open Go.ChangeShapes Go.WideShapes Go.ChangeAt Go.RowKit
set_option linter.unusedVariables false

/-- Below block number base the world is as it was, but for block B. -/
structure Kp (base B : Nat) (w w' : World) : Prop where
  os : w'.os = w.os
  tape : w'.tape = w.tape
  output : w'.output = w.output
  size : w.heap.size ≤ w'.heap.size
  block : ∀ k, k < base → k ≠ B → w'.heap[k]? = w.heap[k]?

theorem Kp.refl (base B : Nat) (w : World) : Kp base B w w := ⟨rfl, rfl, rfl, Nat.le_refl _, fun _ _ _ => rfl⟩
theorem Kp.trans {base B : Nat} {a b c : World} (h : Kp base B a b) (k : Kp base B b c) : Kp base B a c :=
  ⟨k.os.trans h.os, k.tape.trans h.tape, k.output.trans h.output, Nat.le_trans h.size k.size, fun i hi hB => (k.block i hi hB).trans (h.block i hi hB)⟩
theorem Kp.drew {base B : Nat} {a w : World} (h : Kp base B a w) : Kp base B a w.drew := ⟨h.os, h.tape, h.output, h.size, h.block⟩
theorem Kp.alloc {base B : Nat} {a w : World} (h : Kp base B a w) (hB : base ≤ w.heap.size) (o : Obj) : Kp base B a (w.alloc o) :=
  h.trans ⟨rfl, rfl, rfl, by simp, fun k hk _ => Below.heap_alloc _ _ _ (by omega)⟩

/-- The slice at block g, of capacity cap, holds the bytes xs. Where the text's length M fits into the buffer's C: the block is the buffer's, and from M on it holds what it held (og). -/
def Own (M C B : Nat) (og : List Int) (base : Nat) (w : World) (g cap : Nat) (xs : List Int) : Prop :=
  (g = B ∨ base ≤ g) ∧ xs.length ≤ cap ∧ cap ≤ maxLen ∧ ∃ cur : Array Value, w.heap[g]? = some (.cells cur 5 (0, 0)) ∧ cur.size = cap ∧ cur.toList.take xs.length = xs.map (Value.int .u8) ∧
    (M ≤ C → g = B ∧ cap = C ∧ ∀ j, M ≤ j → j < C → cur[j]? = some (.int .u8 (og.getD j 0)))

section
variable {M C B : Nat} {og : List Int} {base : Nat} {w w' : World} {g cap : Nat} {xs : List Int}

theorem Own.rd (h : Own M C B og base w g cap xs) : Rd w (some ⟨g, 0, none⟩) xs := by
  obtain ⟨h1, h2, h3, cur, h4, h5, h6, h7⟩ := h
  intro i hi
  refine ⟨g, 0, rfl, ?_⟩
  rw [Nat.zero_add, cell_of_row w g i cur 5 (0, 0) h4]
  have : (cur.toList.take xs.length)[i]? = (xs.map (Value.int .u8))[i]? := by rw [h6]
  rw [List.getElem?_take, if_pos hi] at this
  simpa [hi] using this

theorem Own.block (h : Own M C B og base w g cap xs) : (g = B ∨ base ≤ g) ∧ g < w.heap.size := by
  obtain ⟨h1, h2, h3, cur, h4, h5, h6, h7⟩ := h
  exact ⟨h1, (Array.getElem?_eq_some_iff.1 h4).1⟩

theorem Own.same (h : Own M C B og base w g cap xs) (hb : w'.heap[g]? = w.heap[g]?) : Own M C B og base w' g cap xs := by
  obtain ⟨h1, h2, h3, cur, h4, h5, h6, h7⟩ := h
  exact ⟨h1, h2, h3, cur, hb.trans h4, h5, h6, h7⟩

theorem Own.alloc (h : Own M C B og base w g cap xs) (o : Obj) : Own M C B og base (w.alloc o) g cap xs :=
  h.same (Below.heap_alloc w o g h.block.2)

theorem Own.take (h : Own M C B og base w g cap xs) (k : Nat) (hk : k ≤ xs.length) : Own M C B og base w g cap (xs.take k) := by
  obtain ⟨h1, h2, h3, cur, h4, h5, h6, h7⟩ := h
  have e : (xs.take k).length = k := by simp; omega
  refine ⟨h1, by omega, h3, cur, h4, h5, ?_, h7⟩
  rw [e, List.map_take, ← h6, List.take_take, Nat.min_eq_left hk]

/-- What an append to it does. -/
theorem run_push (ty : TypeId) (h : Own M C B og base w g cap xs) (ad : Addr) (x : Int) (hc : w.cell? ad = some (.int .u8 x)) (hM : xs.length + 1 ≤ M) (hM2 : M ≤ 4096) (hbase : base ≤ w.heap.size) (n : Nat) (hn : xs.length = n) :
    ∃ g' cap' w', (Builtin.append_ #[22, 22] ty #[.slice (some ⟨g, 0, none⟩) n cap, .slice (some ad) 1 1]).run Try.prog w = .ok (.slice (some ⟨g', 0, none⟩) (n + 1) cap') w' ∧
      Own M C B og base w' g' cap' (xs ++ [x]) ∧ Kp base B w w' ∧ ∀ b j, b < w.heap.size → (b = g → j ≠ n) → w'.cell? ⟨b, j, none⟩ = w.cell? ⟨b, j, none⟩ := by
  subst hn
  obtain ⟨i0, hi, hz0, hz1, hz2⟩ := info_parts Try.info5
  have hnews : ∀ j u, [Value.int .u8 x][j]? = some u → w.cell? (ad.add j) = some u := by
    intro j u hu
    match j, hu with
    | 0, hu => simp at hu; subst hu; simpa [Addr.add] using hc
  have hcopy := h
  obtain ⟨h1, h2, h3, cur, h4, h5, h6, h7⟩ := h
  by_cases hroom : xs.length + 1 ≤ cap
  · have hr := run_append_room (P := Try.prog) w 22 ty 5 i0 Try.underlying22 hi g xs.length cap cur h4 ad 1 1 [.int .u8 x] (by simp [hz1]) hnews (ints_oneCell .u8 [x]) hroom (by simp [hz1]; omega)
    rw [hz1, Nat.mul_one] at hr
    refine ⟨g, cap, _, hr, ⟨h1, by simpa using hroom, h3, _, setRow_heap w g cur _ 5 (0, 0) h4, ?_, ?_, ?_⟩, ⟨rfl, rfl, rfl, by simp, fun k hk hkB => setRow_other w g k _ (by omega)⟩, ?_⟩
    · simp; omega
    · have hle : (cur.toList.take xs.length).length = xs.length := by simp; omega
      simp only [List.length_append, List.length_singleton, List.map_append, List.map_cons, List.map_nil]
      rw [← h6]
      have : (cur.toList.take xs.length ++ [Value.int .u8 x]).length = xs.length + 1 := by rw [List.length_append, hle]; rfl
      rw [← this]
      exact List.take_left
    · intro hMC
      obtain ⟨a, b, c⟩ := h7 hMC
      refine ⟨a, b, fun j hj hjC => ?_⟩
      rw [← c j hj hjC]
      have hle : (cur.toList.take xs.length ++ [Value.int .u8 x]).length = xs.length + 1 := by simp; omega
      rw [List.getElem?_toArray, List.getElem?_append_right (by omega), hle, List.getElem?_drop]
      simp only [List.length_singleton]
      rw [show xs.length + 1 + (j - (xs.length + 1)) = j from by omega]
      simp
    · intro b j hb hbj
      by_cases hbg : b = g
      · subst hbg
        rw [cell_of_row _ b j _ 5 (0, 0) (setRow_heap w b cur _ 5 (0, 0) h4), cell_of_row w b j cur 5 (0, 0) h4]
        have hle : (cur.toList.take xs.length).length = xs.length := by simp; omega
        have hj := hbj rfl
        rw [List.getElem?_toArray]
        by_cases hlt : j < xs.length
        · rw [List.append_assoc, List.getElem?_append_left (by omega), List.getElem?_take, if_pos hlt]; simp
        · rw [List.getElem?_append_right (by simp; omega), List.getElem?_drop]
          simp only [List.length_append, List.length_singleton, hle]
          rw [show xs.length + 1 + (j - (xs.length + 1)) = j from by omega]
          simp
      · exact World.cell?_of_block (setRow_other w g b _ hbg)
  · have hMC : ¬ M ≤ C := fun hMC => by obtain ⟨_, b, _⟩ := h7 hMC; omega
    obtain ⟨v', w', hr, hown, hgrow⟩ := run_append_arg_grows (P := Try.prog) w 22 ty 5 i0 (.int .u8 0) 1 1 Try.underlying22 hi hz0 hz1 hz2 rfl (by decide) ⟨g, 0, none⟩ xs.length cap (xs.map (Value.int .u8)) (by simp) (fun j u hu => hcopy.rd.cells _ rfl j u hu) ad 1 1 [.int .u8 x] rfl hnews (by omega) (by unfold maxLen; omega) (by omega)
    obtain ⟨o1, o2⟩ := hown
    rcases o2 with ⟨_, o2⟩ | ⟨g', cap', cur', rfl, o3, o4, o5, o6, o7, o8⟩
    · omega
    · refine ⟨g', cap', w', hr, ⟨.inr (by omega), by simpa using o5, o6, cur', o4, by omega, ?_, fun h => absurd h hMC⟩, ⟨hgrow.os, hgrow.tape, hgrow.output, hgrow.size, fun k hk _ => hgrow.block k (by omega) (by simp)⟩, fun b j hb _ => World.cell?_of_block (hgrow.block b hb (by simp))⟩
      rw [Nat.mul_one] at o8
      rw [List.length_append, List.map_append]
      exact o8

/-- What an append to the nil slice does. -/
theorem run_push_nil (M C B : Nat) (og : List Int) (base : Nat) (w : World) (ty : TypeId) (ad : Addr) (x : Int) (hc : w.cell? ad = some (.int .u8 x)) (hMC : ¬ M ≤ C) (hbase : base ≤ w.heap.size) :
    ∃ g' cap' w', (Builtin.append_ #[22, 22] ty #[.slice none 0 0, .slice (some ad) 1 1]).run Try.prog w = .ok (.slice (some ⟨g', 0, none⟩) 1 cap') w' ∧
      Own M C B og base w' g' cap' [x] ∧ Kp base B w w' := by
  obtain ⟨i0, hi, hz0, hz1, hz2⟩ := info_parts Try.info5
  have hnews : ∀ j u, [Value.int .u8 x][j]? = some u → w.cell? (ad.add j) = some u := by
    intro j u hu
    match j, hu with
    | 0, hu => simp at hu; subst hu; simpa [Addr.add] using hc
  obtain ⟨v', w', hr, hown, hgrow, _⟩ := run_append_own (P := Try.prog) w base 22 ty 5 i0 (.int .u8 0) 1 1 Try.underlying22 hi hz0 hz1 hz2 rfl (by decide) (.slice none 0 0) 0 [] (World.ownsRow_nil w _ 5 1) ad 1 1 [.int .u8 x] rfl hnews (ints_oneCell .u8 [x]) (by unfold maxLen; omega) (by omega) hbase
  obtain ⟨o1, o2⟩ := hown
  rcases o2 with ⟨_, o2⟩ | ⟨g', cap', cur', rfl, o3, o4, o5, o6, o7, o8⟩
  · omega
  · refine ⟨g', cap', w', hr, ⟨.inr o3, by simpa using o5, o6, cur', o4, by omega, ?_, fun h => absurd h hMC⟩, ⟨hgrow.os, hgrow.tape, hgrow.output, hgrow.size, fun k hk _ => hgrow.block k (by omega) (by simp [Value.ownBlock])⟩⟩
    exact o8

end

/-! ### the same, for the walk -/
theorem wpList_push {w : World} {ops : Array Oper} {rest : List Oper} {o : Oper} {a : Act} {Q : Exit → Act → World → Prop} (M C B : Nat) (og : List Int) (base : Nat) (g cap n : Nat) (xs : List Int) (ad : Addr) (x : Int)
    (hg : o.guard = none) (s y : Operand) (hop : o.op = Op.call { callee := Callee.builtin Builtin.append, args := #[s, y], argTypes := #[22, 22] })
    (hs : a.eval s = .slice (some ⟨g, 0, none⟩) n cap) (hy : a.eval y = .slice (some ad) 1 1) (hn : xs.length = n) (h : Own M C B og base w g cap xs) (hc : w.cell? ad = some (.int .u8 x))
    (hM : xs.length + 1 ≤ M) (hM2 : M ≤ 4096) (hbase : base ≤ w.heap.size)
    (hK : ∀ g' cap' w', Own M C B og base w' g' cap' (xs ++ [x]) → Kp base B w w' → wpList Try.prog ops Q rest (a.put o.dst (.slice (some ⟨g', 0, none⟩) (n + 1) cap')) w') :
    wpList Try.prog ops Q (o :: rest) a w := by
  refine wpList_plain hg fun K hK' => ?_
  obtain ⟨g', cap', w', hrun, r1, r2, _⟩ := run_push o.type h ad x hc hM hM2 hbase n hn
  unfold Oper.wp
  simp [execOp, hop, resolve, invoke, builtin, hs, hy, hrun, Result.andThen]
  exact hK' _ _ (hK g' cap' w' r1 r2)

theorem wpList_push_nil {w : World} {ops : Array Oper} {rest : List Oper} {o : Oper} {a : Act} {Q : Exit → Act → World → Prop} (M C B : Nat) (og : List Int) (base : Nat) (ad : Addr) (x : Int)
    (hg : o.guard = none) (s y : Operand) (hop : o.op = Op.call { callee := Callee.builtin Builtin.append, args := #[s, y], argTypes := #[22, 22] })
    (hs : a.eval s = .slice none 0 0) (hy : a.eval y = .slice (some ad) 1 1) (hc : w.cell? ad = some (.int .u8 x)) (hMC : ¬ M ≤ C) (hbase : base ≤ w.heap.size)
    (hK : ∀ g' cap' w', Own M C B og base w' g' cap' [x] → Kp base B w w' → wpList Try.prog ops Q rest (a.put o.dst (.slice (some ⟨g', 0, none⟩) 1 cap')) w') :
    wpList Try.prog ops Q (o :: rest) a w := by
  refine wpList_plain hg fun K hK' => ?_
  obtain ⟨g', cap', w', hrun, r1, r2⟩ := run_push_nil M C B og base w o.type ad x hc hMC hbase
  unfold Oper.wp
  simp [execOp, hop, resolve, invoke, builtin, hs, hy, hrun, Result.andThen]
  exact hK' _ _ (hK g' cap' w' r1 r2)

/-- The same as one step of a region that draws its order. -/
theorem step_push {ops : Array Oper} {o : Oper} {a : Act} {w : World} {K : Act → World → Prop} {Q : Exit → Act → World → Prop} {E : Prop} (M C B : Nat) (og : List Int) (base : Nat) (g cap n : Nat) (xs : List Int) (ad : Addr) (x : Int)
    (hg : o.guard = none) (s y : Operand) (hop : o.op = Op.call { callee := Callee.builtin Builtin.append, args := #[s, y], argTypes := #[22, 22] })
    (hs : a.eval s = .slice (some ⟨g, 0, none⟩) n cap) (hy : a.eval y = .slice (some ad) 1 1) (hn : xs.length = n) (h : Own M C B og base w g cap xs) (hc : w.cell? ad = some (.int .u8 x))
    (hM : xs.length + 1 ≤ M) (hM2 : M ≤ 4096) (hbase : base ≤ w.heap.size)
    (hK : ∀ g' cap' w', Own M C B og base w' g' cap' (xs ++ [x]) → Kp base B w w' → (∀ b j, b < w.heap.size → (b = g → j ≠ n) → w'.cell? ⟨b, j, none⟩ = w.cell? ⟨b, j, none⟩) → K (a.put o.dst (.slice (some ⟨g', 0, none⟩) (n + 1) cap')) w') :
    if Region.wanted o (yielded ops a.tmps) = true then Oper.wp Try.prog o a w K Q else E := by
  have hw : Region.wanted o (yielded ops a.tmps) = true := by simp [Region.wanted, hg]
  rw [if_pos hw]
  obtain ⟨g', cap', w', hrun, r1, r2, r3⟩ := run_push o.type h ad x hc hM hM2 hbase n hn
  unfold Oper.wp
  simp [execOp, hop, resolve, invoke, builtin, hs, hy, hrun, Result.andThen]
  exact hK g' cap' w' r1 r2 r3

#print axioms step_push
end Go.Proofs.Qxb6601358a
