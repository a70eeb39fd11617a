/-
  The walks of copyInts (20), allDistinct (21), rankBelow (27), ZZList (24), zzBytes (19).
-/
import Derived.Test.Qxb6601677aListWalk
import Derived.OwnWalk
import Derived.Lib.SliceRun
namespace Go.Proofs.Qxb6601677a
open Go.ChangeShapes Go.WideShapes Go.ChangeAt Go.RowKit
set_option linter.unusedVariables false

theorem Try.info3 : (Try.prog.info? 3).map (fun i => (i.zero, i.size, i.bytes)) = some (some (.int .i64 0), 1, 8) := by kernel_rfl

/-- A slice of integers that came in. -/
def IsRow (k : IntKind) (w : World) (a : Option Addr) (len cap : Nat) (zs : List Int) : Prop :=
  (a = none ∧ len = 0 ∧ cap = 0 ∧ zs = []) ∨
  ∃ x, a = some x ∧ len ≤ cap ∧ cap ≤ maxLen ∧ zs.length = cap ∧ (∀ i, i < zs.length → w.cell? (x.add i) = some (.int k (zs.getD i 0))) ∧ ∀ n ∈ zs, (Lit.int k n).wf = true

theorem zzBytes_list (a b : Option Addr) (l0 c0 l1 c1 : Nat) (h0 : l0 ≤ c0) (h1 : l1 ≤ c1) (w : World) : Calls Try.prog 19 #[.slice a l0 c0, .slice b l1 c1] w fun e w' => (∃ r, e = .returned (.bool r) ∧ (r = true → l0 ≤ 1048576 ∧ l1 ≤ 1048576)) ∧ w' = w := by
  by_cases hl0 : l0 ≤ 1048576
  · by_cases hl1 : l1 ≤ 1048576
    · by_cases hs : l0 + l1 ≤ 1048576
      · go_enter Try.func19, Try.ntmps19
        go_wp2
        go_ret
        exact ⟨⟨_, rfl, fun _ => ⟨hl0, hl1⟩⟩, rfl⟩
      · go_enter Try.func19, Try.ntmps19
        go_wp2
        go_ret
        exact ⟨⟨_, rfl, fun _ => ⟨hl0, hl1⟩⟩, rfl⟩
    · go_enter Try.func19, Try.ntmps19
      go_wp2
      go_ret
      exact ⟨⟨_, rfl, fun h => by cases h⟩, rfl⟩
  · go_enter Try.func19, Try.ntmps19
    go_wp2
    go_ret
    exact ⟨⟨_, rfl, fun h => by cases h⟩, rfl⟩

def cpy (zs : List Int) (len k : Nat) : List Value := (zs.take k).map (Value.int .i64) ++ List.replicate (len - k) (.int .i64 0)

theorem cpy_set (zs : List Int) (len k : Nat) (hk : k < len) (hl : len ≤ zs.length) : (cpy zs len k).set k (.int .i64 (zs.getD k 0)) = cpy zs len (k + 1) := by
  unfold cpy
  apply List.ext_getElem?
  intro j
  rcases Nat.lt_trichotomy j k with h | rfl | h
  · rw [List.getElem?_set_ne (by omega), List.getElem?_append_left (by simp; omega), List.getElem?_append_left (by simp; omega)]
    simp [h, show j < k + 1 by omega]
  · rw [List.getElem?_set_self (by simp; omega), List.getElem?_append_left (by simp; omega)]
    simp [show j < zs.length by omega]
  · rw [List.getElem?_set_ne (by omega), List.getElem?_append_right (by simp; omega), List.getElem?_append_right (by simp; omega)]
    simp [List.getElem?_replicate, Nat.min_eq_left (show k ≤ zs.length by omega), Nat.min_eq_left (show k + 1 ≤ zs.length by omega)]
    by_cases hj : j < len
    · rw [if_pos (by omega), if_pos (by omega)]
    · rw [if_neg (by omega), if_neg (by omega)]

theorem cpy_all (zs : List Int) (len : Nat) : cpy zs len len = (zs.take len).map (Value.int .i64) := by simp [cpy]

set_option maxHeartbeats 2000000 in
set_option maxRecDepth 20000 in
theorem copyInts_any (a : Option Addr) (len cap : Nat) (zs : List Int) (w : World) (h : IsRow .i64 w a len cap zs) (hl : len ≤ 1048576) :
    Calls Try.prog 20 #[.slice a len cap] w fun e w' => ∃ bo, e = .returned (.slice bo len len) ∧ w'.ownsRow w.heap.size 3 1 (.slice bo len len) len ((zs.take len).map (Value.int .i64)) ∧ Below w.heap.size w w' := by
  obtain ⟨i1, hi, hz0, hz1, hz2⟩ := info_parts Try.info3
  have q35 : ∀ (w : World) (a : Option Addr) (n c n' c' : Nat), (binOp .eql 35 (.slice a n c) (.slice none n' c')).run Try.prog w = .ok (.bool a.isNone) w := fun w a n c n' c' => Lib.run_eql_slice_nil w _ _ a n c n' c' Try.underlying35
  rcases h with ⟨rfl, rfl, rfl, rfl⟩ | ⟨⟨b, o, sp⟩, rfl, hlc, hcm, hzl, hcell, _⟩
  · go_enter Try.func20, Try.ntmps20
    go_wp2
    go_ret
    exact ⟨none, rfl, World.ownsRow_nil _ _ _ _, Below.refl _ _⟩
  · have hce : Hid (∀ i, i < len → w.cell? ((⟨b, o, sp⟩ : Addr).add i) = some (.int .i64 (zs.getD i 0)) ∧ ((⟨b, o, sp⟩ : Addr).add i).block < w.heap.size) := fun i hi => ⟨hcell i (by omega), World.block_lt_of_cell? w _ (hcell i (by omega))⟩
    clear hcell
    go_enter Try.func20, Try.ntmps20
    go_wp2_with (at_make; refine wpList_make_full _ rfl _ _ 35 rfl w.heap.size 3 i1 (.int .i64 0) 1 Try.underlying35 hi hz0 hz1 _ _ _ _ len rfl rfl rfl rfl ?b1 ?b2 ?b3 ?_)
    case b1 => rw [hz2]; omega
    case b2 => unfold maxLen; omega
    case b3 => omega
    intro w1 hw1 hg1
    have hw2 : w1.ownsRow w.heap.size 3 1 (.slice (some ⟨w.heap.size, 0, none⟩) len len) len (cpy zs len 0) := by
      have : (madeCells #[Value.int .i64 0] len).toList = cpy zs len 0 := by
        rw [toList_madeCells_one]
        simp [cpy]
      rw [← this]
      simpa [Value.cells] using hw1
    have hb1 : Below w.heap.size w w1 := (Below.refl _ _).grown hg1 (Nat.le_refl _) (fun k hk => by cases hk)
    clear hw1 hg1
    go_wp2_with fail
    go_loopg [4] len (fun g s4 wx => ∃ (k : Nat), s4 = .int .i64 k ∧ k ≤ len ∧ g = len - k ∧ wx.ownsRow w.heap.size 3 1 (.slice (some ⟨w.heap.size, 0, none⟩) len len) len (cpy zs len k) ∧ Below w.heap.size w wx)
    case atStart => exact ⟨0, rfl, by omega, rfl, hw2, hb1⟩
    case round =>
      obtain ⟨k, rfl, hk, rfl, ho, hb⟩ := hrel
      by_cases hlt : k < len
      · obtain ⟨a1, a2⟩ := hce.out k hlt
        have a3 : wr.cell? ((⟨b, o, sp⟩ : Addr).add k) = some (.int .i64 (zs.getD k 0)) := (hb.cell a2).trans a1
        have a4 := ho.frozenAt k
        have a5 : ∃ u, wr.cell? ⟨w.heap.size, k, none⟩ = some u := by
          rw [ho.cellAt k (by omega)]
          have : k < (cpy zs len k).length := by rw [ho.1]; omega
          exact ⟨_, List.getElem?_eq_getElem this⟩
        obtain ⟨u, a5⟩ := a5
        have HN := hid (ho.stored k (.int .i64 (zs.getD k 0)))
        have HS := hid (cpy_set zs len k hlt (by omega))
        have hwz := (hb.size)
        clear ho a1 hw2 hb1
        generalize zs.getD k 0 = z at a3 HN HS
        go_wp2
        go_roundg (len - (k + 1))
        case measure => omega
        case rel =>
          refine ⟨k + 1, by go_num, by omega, rfl, ?_, hb.setCell (by show w.heap.size ≤ w.heap.size; omega) _⟩
          rw [← HS.out]
          exact HN.out.1
      · obtain rfl : k = len := by omega
        rw [cpy_all] at ho
        go_wp2
        go_ret
        exact ⟨_, rfl, ho, hb⟩

end Go.Proofs.Qxb6601677a
