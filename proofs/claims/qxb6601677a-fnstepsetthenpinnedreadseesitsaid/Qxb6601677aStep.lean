/-
  The walks of (*entry).step (28), ZZNewStepEntry (8) and ZZStep (9).
-/
import Derived.Test.Qxb6601677aRows
import Derived.WalkKit
import Derived.ProofKit
import Derived.OpenShut
import Derived.ShutString
import Derived.Below
import Derived.WalkSpells
import Derived.WalkLawsBesides
import Derived.Outline
import Derived.RegionTactic
import Derived.BigRegion
import Derived.Deep.QuietTactic
import Derived.BigQuiet
import Derived.Deep.CutRange
import Derived.Deep.DeepCutAuto
namespace Go.Proofs.Qxb6601677a
open Go.ChangeShapes Go.WideShapes Go.ChangeAt Go.RowKit
set_option linter.unusedVariables false

theorem newStep_any (op result : ByteArray) (ex gv : Int) (data : ByteArray) (at' : Int) (w : World) :
    Calls Try.prog 8 #[.string op, .string result, .int .i64 ex, .int .i64 gv, .string data, .int .i64 at'] w fun e w' => e = .returned (.pointer (some ⟨w.heap.size + 1, 0, none⟩)) ∧
      w' = (w.alloc (.cells #[.string op, .string ByteArray.empty, .string ByteArray.empty, .string ByteArray.empty, .string ByteArray.empty, .int .i64 ex, .string result, .string ByteArray.empty, .int .i64 gv, .int .i64 0, .int .i64 0] 52)).alloc (.cells #[.pointer (some ⟨w.heap.size, 0, none⟩), .pointer none, .pointer none, .pointer none, .string data, .int .u64 0, .int .u64 0, .int .i64 at', .int .i64 0, .int .i64 0] 57) := by
  go_enter Try.func8, Try.ntmps8
  go_wp2
  go_ret
  exact ⟨rfl, rfl⟩

theorem cell_a1 {w : World} {a : Addr} {v : Value} (h : w.cell? a = some v) (o1 : Obj) : (w.alloc o1).cell? a = some v := by
  have hb : a.block < w.heap.size := World.block_lt_of_cell? w a h
  rw [World.cell?_of_block (w := w) (Below.heap_alloc w o1 a.block hb)]; exact h

theorem bset {B b o : Nat} {a w : World} {u : Value} (h : Below B a w) (hb : B ≤ b) : Below B a (w.setCell ⟨b, o, none⟩ u) := h.setCell (p := ⟨b, o, none⟩) hb u
theorem bdN {B q : Nat} {a w : World} (h : Below B a w) : Below B a (w.drewN q) := ⟨h.os, h.tape, h.output, h.size, h.block⟩

theorem bel_3 (w : World) (o1 o2 o3 : Obj) : Below w.heap.size w (((w.alloc o1).alloc o2).alloc o3) :=
  (((Below.refl _ _).alloc (Nat.le_refl _) _).alloc (by simp) _).alloc (by simp; omega) _
theorem bel_end (w : World) (o1 o2 o3 : Obj) (q : Nat) (u v : Value) : Below w.heap.size w (((((w.alloc o1).alloc o2).alloc o3).drewN q).setCell ⟨w.heap.size + 1, 0, none⟩ u |>.setCell ⟨w.heap.size + 1, 1, none⟩ v) :=
  bset (bset (bdN (bel_3 w o1 o2 o3)) (by omega)) (by omega)

/-- What a step reads of an entry and of its operation. -/
def Ent (w : World) (E P : Nat) (op result : ByteArray) (ex gv : Int) (data : ByteArray) (at' : Int) : Prop :=
  w.cell? ⟨E, 0, none⟩ = some (.pointer (some ⟨P, 0, none⟩)) ∧ w.cell? ⟨E, 4, none⟩ = some (.string data) ∧ w.cell? ⟨E, 7, none⟩ = some (.int .i64 at') ∧
  w.cell? ⟨P, 0, none⟩ = some (.string op) ∧ w.cell? ⟨P, 6, none⟩ = some (.string result) ∧ w.cell? ⟨P, 5, none⟩ = some (.int .i64 ex) ∧ w.cell? ⟨P, 8, none⟩ = some (.int .i64 gv)

set_option maxHeartbeats 1000000 in
/-- A pin that does not hold. -/
theorem step_stale (E P : Nat) (op result : ByteArray) (ex gv : Int) (data : ByteArray) (at' : Int) (sd : ByteArray) (sv : Int) (w : World) (h : Ent w E P op result ex gv data at') (hE : E < w.heap.size) (hP : P < w.heap.size)
    (h0 : 0 ≤ at') (hne : sv ≠ at') :
    Calls Try.prog 28 #[.pointer (some ⟨E, 0, none⟩), .agg #[.string sd, .int .i64 sv]] w fun e w' => e = .returned (.tuple #[.agg #[.string sd, .int .i64 sv], .bool false]) ∧ Below w.heap.size w w' := by
  obtain ⟨c0, c4, c7, p0, p6, p5, p8⟩ := h
  have d4 := fun o1 o2 o3 => cell_a1 (cell_a1 (cell_a1 c4 o1) o2) o3
  have d7 := fun o1 o2 o3 => cell_a1 (cell_a1 (cell_a1 c7 o1) o2) o3
  have hb : (sv != at') = true := by simpa using hne
  go_enter Try.func28, Try.ntmps28
  go_wp2
  go_region
  go_wp2
  go_quiet (fail)
  go_wp2
  exact bodyPost_ret (v := .tuple #[.agg #[.string sd, .int .i64 sv], .bool false]) (by simp [results, Try.results28, go_sem]) rfl ⟨rfl, bel_end w _ _ _ _ _ _⟩

set_option maxHeartbeats 1000000 in
/-- A read: op is "read"; its pin holds, or there is none. -/
theorem step_read (E P : Nat) (op result : ByteArray) (ex gv : Int) (data : ByteArray) (at' : Int) (sd : ByteArray) (sv : Int) (w : World) (h : Ent w E P op result ex gv data at') (hE : E < w.heap.size) (hP : P < w.heap.size)
    (hpin : at' < 0 ∨ 0 ≤ at' ∧ sv = at') (hop : (op.toList == [114, 101, 97, 100]) = true) :
    Calls Try.prog 28 #[.pointer (some ⟨E, 0, none⟩), .agg #[.string sd, .int .i64 sv]] w fun e w' => e = .returned (.tuple #[.agg #[.string sd, .int .i64 sv], .bool (sd.toList == data.toList)]) ∧ Below w.heap.size w w' := by
  obtain ⟨c0, c4, c7, p0, p6, p5, p8⟩ := h
  have d4 := fun o1 o2 o3 => cell_a1 (cell_a1 (cell_a1 c4 o1) o2) o3
  have d7 := fun o1 o2 o3 => cell_a1 (cell_a1 (cell_a1 c7 o1) o2) o3
  have q0 := fun o1 o2 o3 => cell_a1 (cell_a1 (cell_a1 p0 o1) o2) o3
  have q6 := fun o1 o2 o3 => cell_a1 (cell_a1 (cell_a1 p6 o1) o2) o3
  have q5 := fun o1 o2 o3 => cell_a1 (cell_a1 (cell_a1 p5 o1) o2) o3
  have q8 := fun o1 o2 o3 => cell_a1 (cell_a1 (cell_a1 p8 o1) o2) o3
  rcases hpin with hneg | ⟨hpos, rfl⟩
  · have hd : decide (0 ≤ at') = false := decide_eq_false (by omega)
    go_enter Try.func28, Try.ntmps28
    go_wp2
    go_region
    go_wp2
    go_quiet (fail)
    go_wp2
    go_region
    go_wp2
    exact bodyPost_ret (v := .tuple #[.agg #[.string sd, .int .i64 sv], .bool (sd.toList == data.toList)]) (by simp [results, Try.results28, go_sem]) rfl ⟨rfl, bel_end w _ _ _ _ _ _⟩
  · go_enter Try.func28, Try.ntmps28
    go_wp2
    go_region
    go_wp2
    go_quiet (fail)
    go_wp2
    go_region
    go_wp2
    exact bodyPost_ret (v := .tuple #[.agg #[.string sd, .int .i64 sv], .bool (sd.toList == data.toList)]) (by simp [results, Try.results28, go_sem]) rfl ⟨rfl, bel_end w _ _ _ _ _ _⟩

set_option maxHeartbeats 1000000 in
/-- A write. -/
theorem step_write (E P : Nat) (op result : ByteArray) (ex gv : Int) (data : ByteArray) (at' : Int) (sd : ByteArray) (sv : Int) (w : World) (h : Ent w E P op result ex gv data at') (hE : E < w.heap.size) (hP : P < w.heap.size)
    (hpin : at' < 0 ∨ 0 ≤ at' ∧ sv = at') (hop : (op.toList == [114, 101, 97, 100]) = false) (hop2 : (op.toList == [119, 114, 105, 116, 101]) = true) :
    Calls Try.prog 28 #[.pointer (some ⟨E, 0, none⟩), .agg #[.string sd, .int .i64 sv]] w fun e w' => e = .returned (.tuple #[.agg #[.string data, .int .i64 (wrap64 (sv + 1))], .bool true]) ∧ Below w.heap.size w w' := by
  obtain ⟨c0, c4, c7, p0, p6, p5, p8⟩ := h
  have d4 := fun o1 o2 o3 => cell_a1 (cell_a1 (cell_a1 c4 o1) o2) o3
  have d7 := fun o1 o2 o3 => cell_a1 (cell_a1 (cell_a1 c7 o1) o2) o3
  have q0 := fun o1 o2 o3 => cell_a1 (cell_a1 (cell_a1 p0 o1) o2) o3
  have q6 := fun o1 o2 o3 => cell_a1 (cell_a1 (cell_a1 p6 o1) o2) o3
  have q5 := fun o1 o2 o3 => cell_a1 (cell_a1 (cell_a1 p5 o1) o2) o3
  have q8 := fun o1 o2 o3 => cell_a1 (cell_a1 (cell_a1 p8 o1) o2) o3
  rcases hpin with hneg | ⟨hpos, rfl⟩
  · have hd : decide (0 ≤ at') = false := decide_eq_false (by omega)
    go_enter Try.func28, Try.ntmps28
    go_wp2
    go_region
    go_wp2
    go_quiet (fail)
    go_wp2
    exact bodyPost_ret (v := .tuple #[.agg #[.string data, .int .i64 (wrap64 (sv + 1))], .bool true]) (by simp [results, Try.results28, go_sem]) rfl ⟨rfl, bel_end w _ _ _ _ _ _⟩
  · go_enter Try.func28, Try.ntmps28
    go_wp2
    go_region
    go_wp2
    go_quiet (fail)
    go_wp2
    exact bodyPost_ret (v := .tuple #[.agg #[.string data, .int .i64 (wrap64 (sv + 1))], .bool true]) (by simp [results, Try.results28, go_sem]) rfl ⟨rfl, bel_end w _ _ _ _ _ _⟩

set_option maxHeartbeats 1000000 in
/-- An ok cas. -/
theorem step_ok (E P : Nat) (op result : ByteArray) (ex gv : Int) (data : ByteArray) (at' : Int) (sd : ByteArray) (sv : Int) (w : World) (h : Ent w E P op result ex gv data at') (hE : E < w.heap.size) (hP : P < w.heap.size)
    (hpin : at' < 0 ∨ 0 ≤ at' ∧ sv = at') (hop : (op.toList == [114, 101, 97, 100]) = false) (hop2 : (op.toList == [119, 114, 105, 116, 101]) = false) (hr : (result.toList == [102, 97, 105, 108]) = false) (hr2 : (result.toList == [111, 107]) = true) :
    Calls Try.prog 28 #[.pointer (some ⟨E, 0, none⟩), .agg #[.string sd, .int .i64 sv]] w fun e w' => e = .returned (.tuple #[.agg #[.string data, .int .i64 (wrap64 (sv + 1))], .bool (gv == wrap64 (sv + 1))]) ∧ Below w.heap.size w w' := by
  obtain ⟨c0, c4, c7, p0, p6, p5, p8⟩ := h
  have d4 := fun o1 o2 o3 => cell_a1 (cell_a1 (cell_a1 c4 o1) o2) o3
  have d7 := fun o1 o2 o3 => cell_a1 (cell_a1 (cell_a1 c7 o1) o2) o3
  have q0 := fun o1 o2 o3 => cell_a1 (cell_a1 (cell_a1 p0 o1) o2) o3
  have q6 := fun o1 o2 o3 => cell_a1 (cell_a1 (cell_a1 p6 o1) o2) o3
  have q5 := fun o1 o2 o3 => cell_a1 (cell_a1 (cell_a1 p5 o1) o2) o3
  have q8 := fun o1 o2 o3 => cell_a1 (cell_a1 (cell_a1 p8 o1) o2) o3
  rcases hpin with hneg | ⟨hpos, rfl⟩
  · have hd : decide (0 ≤ at') = false := decide_eq_false (by omega)
    go_enter Try.func28, Try.ntmps28
    go_wp2
    go_region
    go_wp2
    go_quiet (fail)
    go_wp2
    go_region
    go_wp2
    exact bodyPost_ret (v := .tuple #[.agg #[.string data, .int .i64 (wrap64 (sv + 1))], .bool (gv == wrap64 (sv + 1))]) (by simp [results, Try.results28, go_sem]) rfl ⟨rfl, bel_end w _ _ _ _ _ _⟩
  · go_enter Try.func28, Try.ntmps28
    go_wp2
    go_region
    go_wp2
    go_quiet (fail)
    go_wp2
    go_region
    go_wp2
    exact bodyPost_ret (v := .tuple #[.agg #[.string data, .int .i64 (wrap64 (sv + 1))], .bool (gv == wrap64 (sv + 1))]) (by simp [results, Try.results28, go_sem]) rfl ⟨rfl, bel_end w _ _ _ _ _ _⟩

set_option maxHeartbeats 1000000 in
/-- Any other cas. -/
theorem step_info (E P : Nat) (op result : ByteArray) (ex gv : Int) (data : ByteArray) (at' : Int) (sd : ByteArray) (sv : Int) (w : World) (h : Ent w E P op result ex gv data at') (hE : E < w.heap.size) (hP : P < w.heap.size)
    (hpin : at' < 0 ∨ 0 ≤ at' ∧ sv = at') (hop : (op.toList == [114, 101, 97, 100]) = false) (hop2 : (op.toList == [119, 114, 105, 116, 101]) = false) (hr : (result.toList == [102, 97, 105, 108]) = false) (hr2 : (result.toList == [111, 107]) = false) :
    Calls Try.prog 28 #[.pointer (some ⟨E, 0, none⟩), .agg #[.string sd, .int .i64 sv]] w fun e w' => e = .returned (.tuple #[.agg #[.string data, .int .i64 (wrap64 (sv + 1))], .bool (sv == ex)]) ∧ Below w.heap.size w w' := by
  obtain ⟨c0, c4, c7, p0, p6, p5, p8⟩ := h
  have d4 := fun o1 o2 o3 => cell_a1 (cell_a1 (cell_a1 c4 o1) o2) o3
  have d7 := fun o1 o2 o3 => cell_a1 (cell_a1 (cell_a1 c7 o1) o2) o3
  have q0 := fun o1 o2 o3 => cell_a1 (cell_a1 (cell_a1 p0 o1) o2) o3
  have q6 := fun o1 o2 o3 => cell_a1 (cell_a1 (cell_a1 p6 o1) o2) o3
  have q5 := fun o1 o2 o3 => cell_a1 (cell_a1 (cell_a1 p5 o1) o2) o3
  have q8 := fun o1 o2 o3 => cell_a1 (cell_a1 (cell_a1 p8 o1) o2) o3
  rcases hpin with hneg | ⟨hpos, rfl⟩
  · have hd : decide (0 ≤ at') = false := decide_eq_false (by omega)
    go_enter Try.func28, Try.ntmps28
    go_wp2
    go_region
    go_wp2
    go_quiet (fail)
    go_wp2
    go_region
    go_wp2
    exact bodyPost_ret (v := .tuple #[.agg #[.string data, .int .i64 (wrap64 (sv + 1))], .bool (sv == ex)]) (by simp [results, Try.results28, go_sem]) rfl ⟨rfl, bel_end w _ _ _ _ _ _⟩
  · go_enter Try.func28, Try.ntmps28
    go_wp2
    go_region
    go_wp2
    go_quiet (fail)
    go_wp2
    go_region
    go_wp2
    exact bodyPost_ret (v := .tuple #[.agg #[.string data, .int .i64 (wrap64 (sv + 1))], .bool (sv == ex)]) (by simp [results, Try.results28, go_sem]) rfl ⟨rfl, bel_end w _ _ _ _ _ _⟩

end Go.Proofs.Qxb6601677a
