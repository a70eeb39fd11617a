/-
  The walks of list$2 (36: add), ZZNewListCall (22), ZZEnd (23), ZZPrev (25), ZZNext (26).
-/
import Derived.Test.Qxb6601677aRows
import Derived.WalkKit
import Derived.ProofKit
import Derived.OpenShut
import Derived.ShutString
import Derived.Below
import Derived.WalkSpells
import Derived.WalkLawsBesides
import Derived.Outline
import Derived.RegionTactic
import Derived.BigRegion
import Derived.Deep.QuietTactic
import Derived.BigQuiet
import Derived.Deep.CutRange
import Derived.Deep.DeepCutAuto
namespace Go.Proofs.Qxb6601677a
open Go.ChangeShapes Go.WideShapes Go.ChangeAt Go.RowKit
set_option linter.unusedVariables false

def ptr (b : Nat) : Value := .pointer (some ⟨b, 0, none⟩)
def nilp : Value := .pointer none

theorem add_any (e tl T : Nat) (u v : Value) (w : World) (hT : w.cell? ⟨T, 0, none⟩ = some (.pointer (some ⟨tl, 0, none⟩))) (he : w.cell? ⟨e, 2, none⟩ = some u) (ht : w.cell? ⟨tl, 3, none⟩ = some v)
    (fT : w.frozen? ⟨T, 0, none⟩ = false) (fe : w.frozen? ⟨e, 2, none⟩ = false) (ft : w.frozen? ⟨tl, 3, none⟩ = false) (h1 : e ≠ T) (h2 : tl ≠ T) :
    Calls Try.prog 36 #[.pointer (some ⟨e, 0, none⟩), .pointer (some ⟨T, 0, none⟩)] w fun r w' => r = .returned (.tuple #[]) ∧
      ∃ q, w' = (((w.setCell ⟨e, 2, none⟩ (.pointer (some ⟨tl, 0, none⟩))).setCell ⟨tl, 3, none⟩ (.pointer (some ⟨e, 0, none⟩))).setCell ⟨T, 0, none⟩ (.pointer (some ⟨e, 0, none⟩))).drewN q := by
  have h1' : (e = T) = False := by simp [h1]
  have h2' : (tl = T) = False := by simp [h2]
  go_enter Try.func36, Try.ntmps36
  go_wp2
  go_region
  go_end0
  exact ⟨rfl, 1, rfl⟩

theorem newList_any (c r : Int) (w : World) :
    Calls Try.prog 22 #[.int .i64 c, .int .i64 r] w fun e w' => e = .returned (.pointer (some ⟨w.heap.size + 1 + 1, 0, none⟩)) ∧
      w' = ((w.alloc (.cells #[.string ByteArray.empty, .string ByteArray.empty, .string ByteArray.empty, .string ByteArray.empty, .string ByteArray.empty, .int .i64 0, .string ByteArray.empty, .string ByteArray.empty, .int .i64 0, .int .i64 c, .int .i64 r] 52)).alloc
        (.cells #[.pointer (some ⟨w.heap.size, 0, none⟩), .pointer none, .pointer none, .pointer none, .string ByteArray.empty, .int .u64 0, .int .u64 0, .int .i64 0, .int .i64 0, .int .i64 0] 57)).alloc
        (.cells #[.pointer (some ⟨w.heap.size, 0, none⟩), .pointer (some ⟨w.heap.size + 1, 0, none⟩), .pointer none, .pointer none, .string ByteArray.empty, .int .u64 0, .int .u64 0, .int .i64 0, .int .i64 0, .int .i64 0] 57) := by
  go_enter Try.func22, Try.ntmps22
  go_wp2
  go_ret
  exact ⟨rfl, rfl⟩

theorem end_any (b : Nat) (v : Value) (w : World) (h : w.cell? ⟨b, 1, none⟩ = some v) : Calls Try.prog 23 #[.pointer (some ⟨b, 0, none⟩)] w fun e w' => e = .returned v ∧ w' = w := by
  go_enter Try.func23, Try.ntmps23
  go_wp2
  go_ret
  exact ⟨rfl, rfl⟩
theorem prev_any (b : Nat) (v : Value) (w : World) (h : w.cell? ⟨b, 2, none⟩ = some v) : Calls Try.prog 25 #[.pointer (some ⟨b, 0, none⟩)] w fun e w' => e = .returned v ∧ w' = w := by
  go_enter Try.func25, Try.ntmps25
  go_wp2
  go_ret
  exact ⟨rfl, rfl⟩
theorem next_any (b : Nat) (v : Value) (w : World) (h : w.cell? ⟨b, 3, none⟩ = some v) : Calls Try.prog 26 #[.pointer (some ⟨b, 0, none⟩)] w fun e w' => e = .returned v ∧ w' = w := by
  go_enter Try.func26, Try.ntmps26
  go_wp2
  go_ret
  exact ⟨rfl, rfl⟩

end Go.Proofs.Qxb6601677a
