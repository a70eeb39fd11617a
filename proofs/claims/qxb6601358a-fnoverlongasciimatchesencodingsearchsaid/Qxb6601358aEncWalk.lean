/-
  The walk of zzLeadPrefixRB1 (25) and zzEncodeLongRB1 (13).
-/
import Derived.Test.Qxb6601358aBase
import Derived.Test.Qxb6601358aOvPlain
import Derived.Test.Qxb6601358aOvBits
import Derived.Deep.LoopGhost
namespace Go.Proofs.Qxb6601358a
open Go.ChangeShapes Go.WideShapes Go.ChangeAt Go.RowKit
open Ov
set_option linter.unusedVariables false

theorem enc_2 (c : Int) (h0 : 0 ≤ c) (h1 : c ≤ 255) (w : World) :
    Calls Try.prog 13 #[.int .u8 c, .int .i64 2] w fun e w' => e = .returned (.slice (some ⟨w.heap.size, 0, none⟩) 2 2) ∧ w' = w.alloc (.cells #[.int .u8 (192 + c / 64), .int .u8 (128 + c % 64)] 5) := by
  have hmk : ∀ w, (Instr.makeSlice 22 (.int .i64 2) (.int .i64 2)).run Try.prog w = .ok (.slice (some ⟨w.heap.size, 0, none⟩) 2 2) (w.alloc (.cells #[.int .u8 0, .int .u8 0] 5)) := fun _ => by kernel_rfl
  have ho1 := or128 (c % 64) (by omega) (by omega)
  have ho2 := or128 (c / 64) (by omega) (by omega)
  have ho3 := or192 (c / 64) (by omega) (by omega)
  have hm1 : c / 64 % 64 = c / 64 := by omega
  have hm2 : c / 64 / 64 = 0 := by omega
  go_enter Try.func13, Try.ntmps13
  go_wp2
  refine wp_loop_rounds 2 ?_
  rw [rounds_succ]
  go_wp2
  rw [rounds_succ]
  go_wp2
  go_ret
  exact ⟨rfl, rfl⟩

theorem enc_3 (c : Int) (h0 : 0 ≤ c) (h1 : c ≤ 255) (w : World) :
    Calls Try.prog 13 #[.int .u8 c, .int .i64 3] w fun e w' => e = .returned (.slice (some ⟨w.heap.size, 0, none⟩) 3 3) ∧ w' = w.alloc (.cells #[.int .u8 224, .int .u8 (128 + c / 64), .int .u8 (128 + c % 64)] 5) := by
  have hmk : ∀ w, (Instr.makeSlice 22 (.int .i64 3) (.int .i64 3)).run Try.prog w = .ok (.slice (some ⟨w.heap.size, 0, none⟩) 3 3) (w.alloc (.cells #[.int .u8 0, .int .u8 0, .int .u8 0] 5)) := fun _ => by kernel_rfl
  have ho1 := or128 (c % 64) (by omega) (by omega)
  have ho2 := or128 (c / 64) (by omega) (by omega)
  have ho3 := or192 (c / 64) (by omega) (by omega)
  have hm1 : c / 64 % 64 = c / 64 := by omega
  have hm2 : c / 64 / 64 = 0 := by omega
  go_enter Try.func13, Try.ntmps13
  go_wp2
  refine wp_loop_rounds 3 ?_
  rw [rounds_succ]
  go_wp2
  rw [rounds_succ]
  go_wp2
  rw [rounds_succ]
  go_wp2
  go_ret
  exact ⟨rfl, rfl⟩

theorem enc_4 (c : Int) (h0 : 0 ≤ c) (h1 : c ≤ 255) (w : World) :
    Calls Try.prog 13 #[.int .u8 c, .int .i64 4] w fun e w' => e = .returned (.slice (some ⟨w.heap.size, 0, none⟩) 4 4) ∧ w' = w.alloc (.cells #[.int .u8 240, .int .u8 128, .int .u8 (128 + c / 64), .int .u8 (128 + c % 64)] 5) := by
  have hmk : ∀ w, (Instr.makeSlice 22 (.int .i64 4) (.int .i64 4)).run Try.prog w = .ok (.slice (some ⟨w.heap.size, 0, none⟩) 4 4) (w.alloc (.cells #[.int .u8 0, .int .u8 0, .int .u8 0, .int .u8 0] 5)) := fun _ => by kernel_rfl
  have ho1 := or128 (c % 64) (by omega) (by omega)
  have ho2 := or128 (c / 64) (by omega) (by omega)
  have ho3 := or192 (c / 64) (by omega) (by omega)
  have hm1 : c / 64 % 64 = c / 64 := by omega
  have hm2 : c / 64 / 64 = 0 := by omega
  go_enter Try.func13, Try.ntmps13
  go_wp2
  refine wp_loop_rounds 4 ?_
  rw [rounds_succ]
  go_wp2
  rw [rounds_succ]
  go_wp2
  rw [rounds_succ]
  go_wp2
  rw [rounds_succ]
  go_wp2
  go_ret
  exact ⟨rfl, rfl⟩

theorem enc_5 (c : Int) (h0 : 0 ≤ c) (h1 : c ≤ 255) (w : World) :
    Calls Try.prog 13 #[.int .u8 c, .int .i64 5] w fun e w' => e = .returned (.slice (some ⟨w.heap.size, 0, none⟩) 5 5) ∧ w' = w.alloc (.cells #[.int .u8 248, .int .u8 128, .int .u8 128, .int .u8 (128 + c / 64), .int .u8 (128 + c % 64)] 5) := by
  have hmk : ∀ w, (Instr.makeSlice 22 (.int .i64 5) (.int .i64 5)).run Try.prog w = .ok (.slice (some ⟨w.heap.size, 0, none⟩) 5 5) (w.alloc (.cells #[.int .u8 0, .int .u8 0, .int .u8 0, .int .u8 0, .int .u8 0] 5)) := fun _ => by kernel_rfl
  have ho1 := or128 (c % 64) (by omega) (by omega)
  have ho2 := or128 (c / 64) (by omega) (by omega)
  have ho3 := or192 (c / 64) (by omega) (by omega)
  have hm1 : c / 64 % 64 = c / 64 := by omega
  have hm2 : c / 64 / 64 = 0 := by omega
  go_enter Try.func13, Try.ntmps13
  go_wp2
  refine wp_loop_rounds 5 ?_
  rw [rounds_succ]
  go_wp2
  rw [rounds_succ]
  go_wp2
  rw [rounds_succ]
  go_wp2
  rw [rounds_succ]
  go_wp2
  rw [rounds_succ]
  go_wp2
  go_ret
  exact ⟨rfl, rfl⟩

theorem enc_6 (c : Int) (h0 : 0 ≤ c) (h1 : c ≤ 255) (w : World) :
    Calls Try.prog 13 #[.int .u8 c, .int .i64 6] w fun e w' => e = .returned (.slice (some ⟨w.heap.size, 0, none⟩) 6 6) ∧ w' = w.alloc (.cells #[.int .u8 252, .int .u8 128, .int .u8 128, .int .u8 128, .int .u8 (128 + c / 64), .int .u8 (128 + c % 64)] 5) := by
  have hmk : ∀ w, (Instr.makeSlice 22 (.int .i64 6) (.int .i64 6)).run Try.prog w = .ok (.slice (some ⟨w.heap.size, 0, none⟩) 6 6) (w.alloc (.cells #[.int .u8 0, .int .u8 0, .int .u8 0, .int .u8 0, .int .u8 0, .int .u8 0] 5)) := fun _ => by kernel_rfl
  have ho1 := or128 (c % 64) (by omega) (by omega)
  have ho2 := or128 (c / 64) (by omega) (by omega)
  have ho3 := or192 (c / 64) (by omega) (by omega)
  have hm1 : c / 64 % 64 = c / 64 := by omega
  have hm2 : c / 64 / 64 = 0 := by omega
  go_enter Try.func13, Try.ntmps13
  go_wp2
  refine wp_loop_rounds 6 ?_
  rw [rounds_succ]
  go_wp2
  rw [rounds_succ]
  go_wp2
  rw [rounds_succ]
  go_wp2
  rw [rounds_succ]
  go_wp2
  rw [rounds_succ]
  go_wp2
  rw [rounds_succ]
  go_wp2
  go_ret
  exact ⟨rfl, rfl⟩

def encCells (c : Int) (m : Nat) : Array Value := ((enc c m).map (Value.int .u8)).toArray

theorem enc_any (c : Int) (m : Nat) (h0 : 0 ≤ c) (h1 : c ≤ 255) (hm1 : 2 ≤ m) (hm2 : m ≤ 6) (w : World) :
    Calls Try.prog 13 #[.int .u8 c, .int .i64 (m : Int)] w fun e w' => e = .returned (.slice (some ⟨w.heap.size, 0, none⟩) m m) ∧ w' = w.alloc (.cells (encCells c m) 5) := by
  rcases five hm1 hm2 with rfl | rfl | rfl | rfl | rfl
  · exact enc_2 c h0 h1 w
  · exact enc_3 c h0 h1 w
  · exact enc_4 c h0 h1 w
  · exact enc_5 c h0 h1 w
  · exact enc_6 c h0 h1 w

end Go.Proofs.Qxb6601358a
