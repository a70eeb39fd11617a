/-
  Shared by this seat's proofs: what the walks are told of a slice of bytes; the contract of zzCloneBytesRB1.
-/
import Derived.Test.Qxb6601358aRows
import Derived.WalkKit
import Derived.ProofKit
import Derived.OpenShut
import Derived.ShutString
import Derived.ChangeOld
import Derived.Below
import Derived.WalkSpells
import Derived.WalkLawsBesides
import Derived.Outline
namespace Go.Proofs.Qxb6601358a
open Go.ChangeShapes Go.WideShapes Go.ChangeAt Go.RowKit
set_option linter.unusedVariables false

/-- A slice of integers that came in: nil, or a row of 'cap' cells. -/
def IsRow (k : IntKind) (w : World) (a : Option Addr) (len cap : Nat) (zs : List Int) : Prop :=
  (a = none ∧ len = 0 ∧ cap = 0 ∧ zs = []) ∨
  ∃ x, a = some x ∧ len ≤ cap ∧ cap ≤ maxLen ∧ zs.length = cap ∧ (∀ i, i < zs.length → w.cell? (x.add i) = some (.int k (zs.getD i 0))) ∧ ∀ n ∈ zs, (Lit.int k n).wf = true

/-- The bytes zs can be read at a. -/
def Rd (w : World) (a : Option Addr) (zs : List Int) : Prop :=
  ∀ i, i < zs.length → ∃ b off, a = some ⟨b, off, none⟩ ∧ w.cell? ⟨b, off + i, none⟩ = some (.int .u8 (zs.getD i 0))

def Byt (zs : List Int) : Prop := ∀ z ∈ zs, 0 ≤ z ∧ z ≤ 255

theorem ret_bool {a b : Bool} (h : a = b) : Ending.returned (.bool a) = .returned (.bool b) := by rw [h]
theorem ret_int {k : IntKind} {a b : Int} (h : a = b) : Ending.returned (.int k a) = .returned (.int k b) := by rw [h]

theorem Try.info5 : (Try.prog.info? 5).map (fun i => (i.zero, i.size, i.bytes)) = some (some (.int .u8 0), 1, 1) := by kernel_rfl

theorem Rd.below {w w' : World} {B : Nat} {a : Option Addr} {zs : List Int} (h : Rd w a zs) (hb : Below B w w') (hlt : ∀ x, a = some x → x.block < B) : Rd w' a zs := by
  intro i hi
  obtain ⟨b, off, ha, hc⟩ := h i hi
  refine ⟨b, off, ha, ?_⟩
  rw [hb.cell (p := ⟨b, off + i, none⟩) (show b < B from hlt _ ha)]
  exact hc

theorem Rd.of_isRow {w : World} {a : Option Addr} {n c : Nat} {zs : List Int} (h : IsRow .u8 w a n c zs) : Rd w a zs := by
  rcases h with ⟨rfl, rfl, rfl, rfl⟩ | ⟨x, rfl, hl, hm, hz, hcell, hwz⟩
  · intro i hi; simp at hi
  · intro i hi
    obtain ⟨b, off, spot⟩ := x
    have hs : spot = none := by simpa [Addr.add] using World.cell?_spot (hcell 0 (by omega))
    subst hs
    exact ⟨b, off, rfl, by rw [← add_plain]; exact hcell i hi⟩

theorem Rd.take {w : World} {a : Option Addr} {zs : List Int} (h : Rd w a zs) (n : Nat) : Rd w a (zs.take n) := by
  intro i hi
  have hi' : i < n ∧ i < zs.length := by simp at hi; omega
  obtain ⟨b, off, ha, hc⟩ := h i hi'.2
  refine ⟨b, off, ha, ?_⟩
  rw [hc]
  simp [hi'.1]

theorem Byt.of_isRow {w : World} {a : Option Addr} {n c : Nat} {zs : List Int} (h : IsRow .u8 w a n c zs) : Byt zs := by
  rcases h with ⟨rfl, rfl, rfl, rfl⟩ | ⟨x, rfl, hl, hm, hz, hcell, hwz⟩
  · intro i hi; simp at hi
  · intro z hz
    have := bounds_u8 (hwz z hz)
    omega

theorem Rd.of_own {w : World} {B n : Nat} {v : Value} {zs : List Int} {g cap : Nat} (h : w.ownsRow B 5 1 (.slice (some ⟨g, 0, none⟩) n cap) n (zs.map (Value.int .u8))) : Rd w (some ⟨g, 0, none⟩) zs := by
  intro i hi
  refine ⟨g, 0, rfl, ?_⟩
  have h1 := h.1
  simp at h1
  have := h.cellAt i (by omega)
  simp only [Nat.zero_add]
  rw [this]
  simp [hi]


/-! ### zzCloneBytesRB1 (function 10) -/
theorem clone_nil (w : World) : Calls Try.prog 10 #[.slice none 0 0] w fun e w' => e = .returned (.slice none 0 0) ∧ w' = w := by
  have hn := fun (w : World) (a : Option Addr) (n c : Nat) => Lib.run_eql_slice_nil (P := Try.prog) w _ _ a n c 0 0 Try.underlying22
  go_enter Try.func10, Try.ntmps10
  go_wp2
  go_ret
  exact ⟨rfl, rfl⟩

/-- What has been copied after k rounds. -/
def cp (zs : List Int) (n k : Nat) : List Int := zs.take k ++ List.replicate (n - k) 0

theorem cp_zero (zs : List Int) (n : Nat) : cp zs n 0 = List.replicate n 0 := by simp [cp]
theorem cp_end (zs : List Int) (n : Nat) : cp zs n n = zs.take n := by simp [cp]
theorem cp_succ (zs : List Int) (n k : Nat) (hk : k < n) (hz : k < zs.length) : (cp zs n k).set k (zs.getD k 0) = cp zs n (k + 1) := by
  unfold cp
  have e1 : (zs.take k).length = k := by simp; omega
  rw [List.set_append_right k _ (by omega), e1, Nat.sub_self]
  have e2 : n - k = (n - (k + 1)) + 1 := by omega
  rw [e2, List.replicate_succ, List.set_cons_zero]
  have e3 : zs.take (k + 1) = zs.take k ++ [zs[k]] := List.take_succ_eq_append_getElem hz
  rw [e3, List.append_assoc]
  have e4 : zs.getD k 0 = zs[k] := by simp [hz]
  rw [e4]
  rfl

theorem clone_some (x : Addr) (n c : Nat) (zs : List Int) (w : World) (hr : Rd w (some x) zs) (hz : zs.length = c) (hnc : n ≤ c) (hn : n ≤ 1048576) :
    Calls Try.prog 10 #[.slice (some x) n c] w fun e w' => e = .returned (.slice (some ⟨w.heap.size, 0, none⟩) n n) ∧
      w'.ownsRow w.heap.size 5 1 (.slice (some ⟨w.heap.size, 0, none⟩) n n) n ((zs.take n).map (Value.int .u8)) ∧ Below w.heap.size w w' ∧ w.heap.size < w'.heap.size := by
  have hnil := fun (w : World) (a : Option Addr) (n c : Nat) => Lib.run_eql_slice_nil (P := Try.prog) w _ _ a n c 0 0 Try.underlying22
  obtain ⟨i0, hi, hz0, hz1, hz2⟩ := info_parts Try.info5
  go_enter Try.func10, Try.ntmps10
  go_wp2_with (at_make; refine wpList_make_full _ rfl _ _ 22 rfl w.heap.size 5 i0 (.int .u8 0) 1 Try.underlying22 hi hz0 hz1 .i64 .i64 _ _ n rfl rfl rfl rfl (by rw [hz2]; omega) (by unfold maxLen; omega) (Nat.le_refl _) ?_; intro w1 hown hgrow)
  have e0 : (madeCells (Value.int .u8 0).cells (n * 1)).toList = (cp zs n 0).map (Value.int .u8) := by
    rw [cp_zero, Nat.mul_one]
    simp only [Value.cells, toList_madeCells_one, List.map_replicate]
  rw [e0] at hown
  have hb1 : Below w.heap.size w w1 := (Below.refl _ _).grown hgrow (Nat.le_refl _) (by intro k hk; cases hk)
  have hs1 : w.heap.size < w1.heap.size := (hown.lt w.heap.size rfl).2
  clear e0 hgrow
  go_loopw [4] (fun i wr => ∃ k : Nat, k ≤ n ∧ i = .int .i64 k ∧ wr.ownsRow w.heap.size 5 1 (.slice (some ⟨w.heap.size, 0, none⟩) n n) n ((cp zs n k).map (Value.int .u8)) ∧ Below w.heap.size w wr ∧ w.heap.size < wr.heap.size) (fun i _ => n - (intOf i).toNat)
  case atStart => exact ⟨0, Nat.zero_le _, rfl, hown, hb1, hs1⟩
  case round =>
    obtain ⟨k, hk, rfl, hown, hb1, hs1⟩ := hrel
    by_cases hlt : k < n
    · obtain ⟨b, off, hx, hc⟩ := hr k (by omega)
      simp only [Option.some.injEq] at hx
      subst hx
      have hbl : b < w.heap.size := World.block_lt_of_cell? w _ hc
      have hc' : wr.cell? ⟨b, off + k, none⟩ = some (.int .u8 (zs.getD k 0)) := by rw [hb1.cell (p := ⟨b, off + k, none⟩) hbl]; exact hc
      have hfz := hown.frozenAt k
      have hst := hown.cellAt k (by omega)
      have hlen : ((cp zs n k).map (Value.int .u8)).length = n := by have := hown.1; omega
      rw [List.getElem?_eq_getElem (by omega)] at hst
      have R := hown.stored k (.int .u8 (zs.getD k 0))
      rw [← List.map_set, cp_succ zs n k hlt (by omega)] at R
      go_wp2
      go_roundw
      case rel => exact ⟨k + 1, by omega, by go_num, by simpa using R.1, hb1.setCell (Nat.le_refl _) _, by simpa [World.setCell] using hs1⟩
      case measure => simp [intOf]; omega
    · go_wp2
      go_ret
      obtain rfl : k = n := by omega
      rw [cp_end] at hown
      exact ⟨rfl, hown, hb1, hs1⟩

/-- The clone of whatever slice came in. -/
theorem clone_any (a : Option Addr) (n c : Nat) (zs : List Int) (w : World) (h : IsRow .u8 w a n c zs) (hn : n ≤ 1048576) :
    Calls Try.prog 10 #[.slice a n c] w fun e w' => ∃ a', e = .returned (.slice a' n n) ∧ Rd w' a' (zs.take n) ∧ (a' = none ↔ a = none) ∧ (a = none → n = 0) ∧ (zs.take n).length = n ∧ Byt (zs.take n) ∧
      Below w.heap.size w w' ∧ (a' = none ∨ a' = some ⟨w.heap.size, 0, none⟩ ∧ w'.ownsRow w.heap.size 5 1 (.slice a' n n) n ((zs.take n).map (Value.int .u8)) ∧ w.heap.size < w'.heap.size) := by
  have hby : Byt (zs.take n) := fun z hz => Byt.of_isRow h z (List.mem_of_mem_take hz)
  have hr := Rd.of_isRow h
  rcases h with ⟨rfl, rfl, rfl, rfl⟩ | ⟨x, rfl, hl, hm, hz, hcell, hwz⟩
  · refine (clone_nil w).mono ?_
    rintro e w' ⟨rfl, rfl⟩
    exact ⟨none, rfl, fun i hi => by simp at hi, by simp, fun _ => rfl, rfl, hby, Below.refl _ _, .inl rfl⟩
  · refine (clone_some x n c zs w hr hz hl hn).mono ?_
    rintro e w' ⟨rfl, hown, hbel, hsz⟩
    exact ⟨some ⟨w.heap.size, 0, none⟩, rfl, Rd.of_own (v := .bool true) hown, by simp, fun h => (by simp at h), by simp; omega, hby, hbel, .inr ⟨rfl, hown, hsz⟩⟩

end Go.Proofs.Qxb6601358a
