/-
  Small walks for the two laws of newNeeds: ZZNewNeedsCall (14), ZZNeed (16), counted (17), copyI64 (12), copyStrs (13).
-/
import Derived.Test.Qxb6601677aListSmall
import Derived.Deep.LoopGhost
import Derived.OwnWalk
import Derived.Lib.SliceRun
import Derived.SliceStrings
namespace Go.Proofs.Qxb6601677a
open Go.ChangeShapes Go.WideShapes Go.ChangeAt Go.RowKit
set_option linter.unusedVariables false

def opCells (r o : ByteArray) : Array Value := #[.string o, .string ByteArray.empty, .string ByteArray.empty, .string ByteArray.empty, .string ByteArray.empty, .int .i64 0, .string r, .string ByteArray.empty, .int .i64 0, .int .i64 0, .int .i64 0]
def enCells (P : Nat) (a : Int) : Array Value := #[.pointer (some ⟨P, 0, none⟩), .pointer none, .pointer none, .pointer none, .string ByteArray.empty, .int .u64 0, .int .u64 0, .int .i64 a, .int .i64 0, .int .i64 0]

/-- The two blocks that ZZNewNeedsCall makes. -/
def made2 (w : World) (a : Int) (r o : ByteArray) : World := (w.alloc (.cells (opCells r o) 52)).alloc (.cells (enCells w.heap.size a) 57)

theorem call_any (a : Int) (r o : ByteArray) (w : World) :
    Calls Try.prog 14 #[.int .i64 a, .string r, .string o] w fun e w' => e = .returned (.pointer (some ⟨w.heap.size + 1, 0, none⟩)) ∧ w' = made2 w a r o := by
  go_enter Try.func14, Try.ntmps14
  go_wp2
  go_ret
  exact ⟨rfl, rfl⟩

theorem need_any (b : Nat) (v : Value) (w : World) (h : w.cell? ⟨b, 8, none⟩ = some v) : Calls Try.prog 16 #[.pointer (some ⟨b, 0, none⟩)] w fun e w' => e = .returned v ∧ w' = w := by
  go_enter Try.func16, Try.ntmps16
  go_wp2
  go_ret
  exact ⟨rfl, rfl⟩

/-- A slice of strings that came in. -/
def RowS (w : World) (a : Option Addr) (len cap : Nat) (ss : List ByteArray) : Prop :=
  (a = none ∧ len = 0 ∧ cap = 0 ∧ ss = []) ∨
  ∃ x, a = some x ∧ len ≤ cap ∧ cap ≤ maxLen ∧ ss.length = cap ∧ (∀ i, i < ss.length → w.cell? (x.add i) = some (.string (ss.getD i ByteArray.empty))) ∧ ∀ s ∈ ss, s.size ≤ maxLen
/-- A slice of integers that came in. -/
def RowI (w : World) (a : Option Addr) (len cap : Nat) (zs : List Int) : Prop :=
  (a = none ∧ len = 0 ∧ cap = 0 ∧ zs = []) ∨
  ∃ x, a = some x ∧ len ≤ cap ∧ cap ≤ maxLen ∧ zs.length = cap ∧ (∀ i, i < zs.length → w.cell? (x.add i) = some (.int .i64 (zs.getD i 0))) ∧ ∀ n ∈ zs, (Lit.int .i64 n).wf = true

/-- Is the call counted? -/
def kd (a : Int) (r o : ByteArray) : Bool := decide (0 ≤ a) && ((r.toList == [111, 107]) || (o.toList == [119, 114, 105, 116, 101]))

theorem counted_any (a : Int) (r o : ByteArray) (w : World) : Calls Try.prog 17 #[.int .i64 a, .string r, .string o] w fun e w' => e = .returned (.bool (kd a r o)) ∧ w' = w := by
  by_cases ha : 0 ≤ a
  · cases hr : (r.toList == [111, 107]) with
    | true =>
      go_enter Try.func17, Try.ntmps17
      go_wp2
      go_ret
      exact ⟨by simp [kd, ha, hr], rfl⟩
    | false =>
      cases ho : (o.toList == [119, 114, 105, 116, 101]) with
      | true =>
        go_enter Try.func17, Try.ntmps17
        go_wp2
        go_ret
        exact ⟨by simp [kd, ha, hr, ho], rfl⟩
      | false =>
        go_enter Try.func17, Try.ntmps17
        go_wp2
        go_ret
        exact ⟨by simp [kd, ha, hr, ho], rfl⟩
  · go_enter Try.func17, Try.ntmps17
    go_wp2
    go_ret
    exact ⟨by simp [kd, show ¬ 0 ≤ a by omega], rfl⟩

theorem hidn {p : Prop} (h : p) : Hid p := h

/-- The copy after k rounds. -/
def cpyR (f : Nat → Value) (z : Value) (len k : Nat) : List Value := (List.range k).map f ++ List.replicate (len - k) z

theorem cpyR_len (f : Nat → Value) (z : Value) (len k : Nat) (hk : k ≤ len) : (cpyR f z len k).length = len := by simp [cpyR]; omega

theorem cpyR_set (f : Nat → Value) (z : Value) (len k : Nat) (hk : k < len) : (cpyR f z len k).set k (f k) = cpyR f z len (k + 1) := by
  unfold cpyR
  have h1 : ((List.range k).map f).length = k := by simp
  rw [List.set_append_right _ _ (by omega), h1, Nat.sub_self, show len - k = (len - (k + 1)) + 1 by omega, List.replicate_succ, List.set_cons_zero, List.range_succ]
  simp

theorem cpyR_get (f : Nat → Value) (z : Value) (len j : Nat) (hj : j < len) : (cpyR f z len len)[j]? = some (f j) := by
  simp [cpyR, hj]

theorem Try.info2c : (Try.prog.info? 2).map (fun i => (i.zero, i.size, i.bytes)) = some (some (.int .i64 0), 1, 8) := by kernel_rfl
theorem Try.info9c : (Try.prog.info? 9).map (fun i => (i.zero, i.size, i.bytes)) = some (some (.string ByteArray.empty), 1, 16) := by kernel_rfl

set_option maxHeartbeats 2000000 in
set_option maxRecDepth 20000 in
theorem copyI64_any (a : Option Addr) (len cap : Nat) (zs : List Int) (w : World) (h : RowI w a len cap zs) (hl : len ≤ 1048576) :
    Calls Try.prog 12 #[.slice a len cap] w fun e w' => ∃ bo, e = .returned (.slice bo len len) ∧ w'.ownsRow w.heap.size 2 1 (.slice bo len len) len (cpyR (fun j => .int .i64 (zs.getD j 0)) (.int .i64 0) len len) ∧ Below w.heap.size w w' := by
  obtain ⟨i1, hi, hz0, hz1, hz2⟩ := info_parts Try.info2c
  have q27 : ∀ (w : World) (a : Option Addr) (n c n' c' : Nat), (binOp .eql 27 (.slice a n c) (.slice none n' c')).run Try.prog w = .ok (.bool a.isNone) w := fun w a n c n' c' => Lib.run_eql_slice_nil w _ _ a n c n' c' Try.underlying27
  rcases h with ⟨rfl, rfl, rfl, rfl⟩ | ⟨⟨b, o, sp⟩, rfl, hlc, hcm, hzl, hcell, _⟩
  · go_enter Try.func12, Try.ntmps12
    go_wp2
    go_ret
    exact ⟨none, rfl, World.ownsRow_nil _ _ _ _, Below.refl _ _⟩
  · have hce : Hid (∀ i, i < len → w.cell? ((⟨b, o, sp⟩ : Addr).add i) = some (.int .i64 (zs.getD i 0)) ∧ ((⟨b, o, sp⟩ : Addr).add i).block < w.heap.size) := fun i hi => ⟨hcell i (by omega), World.block_lt_of_cell? w _ (hcell i (by omega))⟩
    clear hcell
    go_enter Try.func12, Try.ntmps12
    go_wp2_with (at_make; refine wpList_make_full _ rfl _ _ 27 rfl w.heap.size 2 i1 (.int .i64 0) 1 Try.underlying27 hi hz0 hz1 _ _ _ _ len rfl rfl rfl rfl ?b1 ?b2 ?b3 ?_)
    case b1 => rw [hz2]; omega
    case b2 => unfold maxLen; omega
    case b3 => omega
    intro w1 hw1 hg1
    have hw2 : w1.ownsRow w.heap.size 2 1 (.slice (some ⟨w.heap.size, 0, none⟩) len len) len (cpyR (fun j => .int .i64 (zs.getD j 0)) (.int .i64 0) len 0) := by
      have : (madeCells #[Value.int .i64 0] len).toList = cpyR (fun j => .int .i64 (zs.getD j 0)) (.int .i64 0) len 0 := by
        rw [toList_madeCells_one]
        simp [cpyR]
      rw [← this]
      simpa [Value.cells] using hw1
    have hb1 : Below w.heap.size w w1 := (Below.refl _ _).grown hg1 (Nat.le_refl _) (fun k hk => by cases hk)
    clear hw1 hg1
    go_wp2_with fail
    go_loopg [4] len (fun g s4 wx => ∃ (k : Nat), s4 = .int .i64 k ∧ k ≤ len ∧ g = len - k ∧ wx.ownsRow w.heap.size 2 1 (.slice (some ⟨w.heap.size, 0, none⟩) len len) len (cpyR (fun j => .int .i64 (zs.getD j 0)) (.int .i64 0) len k) ∧ Below w.heap.size w wx)
    case atStart => exact ⟨0, rfl, by omega, rfl, hw2, hb1⟩
    case round =>
      obtain ⟨k, rfl, hk, rfl, ho, hb⟩ := hrel
      by_cases hlt : k < len
      · obtain ⟨a1, a2⟩ := hce.out k hlt
        have a3 : wr.cell? ((⟨b, o, sp⟩ : Addr).add k) = some (.int .i64 (zs.getD k 0)) := (hb.cell a2).trans a1
        have a4 := ho.frozenAt k
        have a5 : ∃ u, wr.cell? ⟨w.heap.size, k, none⟩ = some u := by
          rw [ho.cellAt k (by omega)]
          have : k < (cpyR (fun j => .int .i64 (zs.getD j 0)) (.int .i64 0) len k).length := by rw [ho.1]; omega
          exact ⟨_, List.getElem?_eq_getElem this⟩
        obtain ⟨u, a5⟩ := a5
        have HN := hidn (ho.stored k (.int .i64 (zs.getD k 0)))
        have HS := hidn (cpyR_set (fun j => .int .i64 (zs.getD j 0)) (.int .i64 0) len k hlt)
        have hwz := (hb.size)
        clear ho a1 hw2 hb1
        generalize hz : zs.getD k 0 = z at a3 HN
        have HZ := hidn hz
        clear hz
        go_wp2
        go_roundg (len - (k + 1))
        case measure => omega
        case rel =>
          refine ⟨k + 1, by go_num, by omega, rfl, ?_, hb.setCell (by show w.heap.size ≤ w.heap.size; omega) _⟩
          rw [← HS.out]
          show World.ownsRow _ _ _ _ _ _ (List.set _ _ (.int .i64 (zs.getD k 0)))
          rw [HZ.out]
          exact HN.out.1
      · obtain rfl : k = len := by omega
        go_wp2
        go_ret
        exact ⟨_, rfl, ho, hb⟩

set_option maxHeartbeats 2000000 in
set_option maxRecDepth 20000 in
theorem copyStrs_any (a : Option Addr) (len cap : Nat) (zs : List ByteArray) (w : World) (h : RowS w a len cap zs) (hl : len ≤ 1048576) :
    Calls Try.prog 13 #[.slice a len cap] w fun e w' => ∃ bo, e = .returned (.slice bo len len) ∧ w'.ownsRow w.heap.size 9 1 (.slice bo len len) len (cpyR (fun j => .string (zs.getD j ByteArray.empty)) (.string ByteArray.empty) len len) ∧ Below w.heap.size w w' := by
  obtain ⟨i1, hi, hz0, hz1, hz2⟩ := info_parts Try.info9c
  have q28 : ∀ (w : World) (a : Option Addr) (n c n' c' : Nat), (binOp .eql 28 (.slice a n c) (.slice none n' c')).run Try.prog w = .ok (.bool a.isNone) w := fun w a n c n' c' => Lib.run_eql_slice_nil w _ _ a n c n' c' Try.underlying28
  rcases h with ⟨rfl, rfl, rfl, rfl⟩ | ⟨⟨b, o, sp⟩, rfl, hlc, hcm, hzl, hcell, _⟩
  · go_enter Try.func13, Try.ntmps13
    go_wp2
    go_ret
    exact ⟨none, rfl, World.ownsRow_nil _ _ _ _, Below.refl _ _⟩
  · have hce : Hid (∀ i, i < len → w.cell? ((⟨b, o, sp⟩ : Addr).add i) = some (.string (zs.getD i ByteArray.empty)) ∧ ((⟨b, o, sp⟩ : Addr).add i).block < w.heap.size) := fun i hi => ⟨hcell i (by omega), World.block_lt_of_cell? w _ (hcell i (by omega))⟩
    clear hcell
    go_enter Try.func13, Try.ntmps13
    go_wp2_with (at_make; refine wpList_make_full _ rfl _ _ 28 rfl w.heap.size 9 i1 (.string ByteArray.empty) 1 Try.underlying28 hi hz0 hz1 _ _ _ _ len rfl rfl rfl rfl ?b1 ?b2 ?b3 ?_)
    case b1 => rw [hz2]; omega
    case b2 => unfold maxLen; omega
    case b3 => omega
    intro w1 hw1 hg1
    have hw2 : w1.ownsRow w.heap.size 9 1 (.slice (some ⟨w.heap.size, 0, none⟩) len len) len (cpyR (fun j => .string (zs.getD j ByteArray.empty)) (.string ByteArray.empty) len 0) := by
      have : (madeCells #[Value.string ByteArray.empty] len).toList = cpyR (fun j => .string (zs.getD j ByteArray.empty)) (.string ByteArray.empty) len 0 := by
        rw [toList_madeCells_one]
        simp [cpyR]
      rw [← this]
      simpa [Value.cells] using hw1
    have hb1 : Below w.heap.size w w1 := (Below.refl _ _).grown hg1 (Nat.le_refl _) (fun k hk => by cases hk)
    clear hw1 hg1
    go_wp2_with fail
    go_loopg [4] len (fun g s4 wx => ∃ (k : Nat), s4 = .int .i64 k ∧ k ≤ len ∧ g = len - k ∧ wx.ownsRow w.heap.size 9 1 (.slice (some ⟨w.heap.size, 0, none⟩) len len) len (cpyR (fun j => .string (zs.getD j ByteArray.empty)) (.string ByteArray.empty) len k) ∧ Below w.heap.size w wx)
    case atStart => exact ⟨0, rfl, by omega, rfl, hw2, hb1⟩
    case round =>
      obtain ⟨k, rfl, hk, rfl, ho, hb⟩ := hrel
      by_cases hlt : k < len
      · obtain ⟨a1, a2⟩ := hce.out k hlt
        have a3 : wr.cell? ((⟨b, o, sp⟩ : Addr).add k) = some (.string (zs.getD k ByteArray.empty)) := (hb.cell a2).trans a1
        have a4 := ho.frozenAt k
        have a5 : ∃ u, wr.cell? ⟨w.heap.size, k, none⟩ = some u := by
          rw [ho.cellAt k (by omega)]
          have : k < (cpyR (fun j => .string (zs.getD j ByteArray.empty)) (.string ByteArray.empty) len k).length := by rw [ho.1]; omega
          exact ⟨_, List.getElem?_eq_getElem this⟩
        obtain ⟨u, a5⟩ := a5
        have HN := hidn (ho.stored k (.string (zs.getD k ByteArray.empty)))
        have HS := hidn (cpyR_set (fun j => .string (zs.getD j ByteArray.empty)) (.string ByteArray.empty) len k hlt)
        have hwz := (hb.size)
        clear ho a1 hw2 hb1
        generalize hz : zs.getD k ByteArray.empty = z at a3 HN
        have HZ := hidn hz
        clear hz
        go_wp2
        go_roundg (len - (k + 1))
        case measure => omega
        case rel =>
          refine ⟨k + 1, by go_num, by omega, rfl, ?_, hb.setCell (by show w.heap.size ≤ w.heap.size; omega) _⟩
          rw [← HS.out]
          show World.ownsRow _ _ _ _ _ _ (List.set _ _ (.string (zs.getD k ByteArray.empty)))
          rw [HZ.out]
          exact HN.out.1
      · obtain rfl : k = len := by omega
        go_wp2
        go_ret
        exact ⟨_, rfl, ho, hb⟩

end Go.Proofs.Qxb6601677a
