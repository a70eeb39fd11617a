/-
  The walks of isHex (29), unhex (30), zzHexValRB1 (31) and zzSameBytesRB1 (22).
-/
import Derived.Test.Qxb6601358aMem
import Derived.Test.Qxb6601358aDeepPlain
import Derived.Deep.LoopGhost
import Derived.Deep.QuietTactic
import Derived.BigQuiet
namespace Go.Proofs.Qxb6601358a
open Go.ChangeShapes Go.WideShapes Go.ChangeAt Go.RowKit
open Ov Deep
set_option linter.unusedVariables false

theorem ret_pair {k : IntKind} {a b : Int} {v : Value} (h : a = b) : Ending.returned (.tuple #[.int k a, v]) = .returned (.tuple #[.int k b, v]) := by rw [h]

theorem isHex_yes (c : Int) (w : World) (h : Hex c) : Calls Try.prog 29 #[.int .u8 c] w fun e w' => e = .returned (.bool true) ∧ w' = w := by
  unfold Hex at h
  rcases h with ⟨h1, h2⟩ | ⟨h1, h2⟩ | ⟨h1, h2⟩
  all_goals
    go_enter Try.func29, Try.ntmps29
    go_wp2
    go_ret
    exact ⟨rfl, rfl⟩

theorem isHex_no (c : Int) (w : World) (h : ¬ Hex c) : Calls Try.prog 29 #[.int .u8 c] w fun e w' => e = .returned (.bool false) ∧ w' = w := by
  unfold Hex at h
  rcases (show c < 48 ∨ (57 < c ∧ c < 65) ∨ (70 < c ∧ c < 97) ∨ 102 < c by omega) with h1 | ⟨h1, h2⟩ | ⟨h1, h2⟩ | h1
  all_goals
    clear h
    go_enter Try.func29, Try.ntmps29
    go_wp2
    go_ret
    first | exact ⟨rfl, rfl⟩ | exact ⟨ret_bool (by simp; omega), rfl⟩

theorem unhex_any (c : Int) (w : World) (h : Hex c) : Calls Try.prog 30 #[.int .u8 c] w fun e w' => e = .returned (.int .u8 (hv c)) ∧ w' = w := by
  unfold Hex at h
  rcases h with ⟨h1, h2⟩ | ⟨h1, h2⟩ | ⟨h1, h2⟩
  all_goals
    have hh : Hid (hv c = if c ≤ 57 then c - 48 else if c ≤ 70 then c - 55 else c - 87) := rfl
    generalize hv c = v at hh ⊢
    go_enter Try.func30, Try.ntmps30
    go_wp2
    go_ret
    refine ⟨ret_int ?_, rfl⟩
    have := hh.out
    first
      | (rw [if_pos (by omega)] at this; omega)
      | (rw [if_neg (by omega), if_pos (by omega)] at this; omega)
      | (rw [if_neg (by omega), if_neg (by omega)] at this; omega)

theorem hexVal_yes (c : Int) (w : World) (h : Hex c) : Calls Try.prog 31 #[.int .u8 c] w fun e w' => e = .returned (.tuple #[.int .u8 (hv c), .bool true]) ∧ w' = w := by
  unfold Hex at h
  rcases h with ⟨h1, h2⟩ | ⟨h1, h2⟩ | ⟨h1, h2⟩
  · have e : c - 48 = hv c := by unfold hv; rw [if_pos h2]
    have e' : Hid (c - 48 = hv c) := e
    clear e
    generalize hv c = v at e' ⊢
    go_enter Try.func31, Try.ntmps31
    go_wp2
    go_ret2
    exact ⟨ret_pair e'.out, rfl⟩
  · have e : c - 97 + 10 = hv c := by unfold hv; rw [if_neg (by omega), if_neg (by omega)]; omega
    have e' : Hid (c - 97 + 10 = hv c) := e
    clear e
    generalize hv c = v at e' ⊢
    go_enter Try.func31, Try.ntmps31
    go_wp2
    go_ret2
    exact ⟨ret_pair e'.out, rfl⟩
  · have e : c - 65 + 10 = hv c := by unfold hv; rw [if_neg (by omega), if_pos (by omega)]; omega
    have e' : Hid (c - 65 + 10 = hv c) := e
    clear e
    generalize hv c = v at e' ⊢
    go_enter Try.func31, Try.ntmps31
    go_wp2
    go_ret2
    exact ⟨ret_pair e'.out, rfl⟩

theorem hexVal_no (c : Int) (w : World) (h : ¬ Hex c) : Calls Try.prog 31 #[.int .u8 c] w fun e w' => e = .returned (.tuple #[.int .u8 0, .bool false]) ∧ w' = w := by
  unfold Hex at h
  rcases (show c < 48 ∨ (57 < c ∧ c < 65) ∨ (70 < c ∧ c < 97) ∨ 102 < c by omega) with h1 | ⟨h1, h2⟩ | ⟨h1, h2⟩ | h1
  all_goals
    clear h
    go_enter Try.func31, Try.ntmps31
    go_wp2
    go_ret2
    exact ⟨rfl, rfl⟩

/-- Two slices that hold the same bytes. -/
theorem same_eq (a b : Option Addr) (n c d : Nat) (zs : List Int) (w : World) (hl : zs.length = n) (hn : n ≤ 2097152) (hr : Rd w a zs) (hr2 : Rd w b zs) :
    Calls Try.prog 22 #[.slice a n c, .slice b n d] w fun e w' => e = .returned (.bool true) ∧ ∃ q, w' = w.drewN q := by
  go_enter Try.func22, Try.ntmps22
  go_wp2
  go_loopg [5] n (fun g s5 wx => ∃ (k q : Nat), w.drewN q = wx ∧ k ≤ n ∧ g = n - k ∧ s5 = .int .i64 k)
  case atStart => exact ⟨0, 0, rfl, by omega, rfl, rfl⟩
  case round =>
    obtain ⟨k, q, rfl, hk, rfl, rfl⟩ := hrel
    by_cases hlt : k < n
    · obtain ⟨b1, o1, rfl, hc1⟩ := hr k (by omega)
      obtain ⟨b2, o2, rfl, hc2⟩ := hr2 k (by omega)
      obtain ⟨x, hx⟩ : ∃ x, x = zs.getD k 0 := ⟨_, rfl⟩
      rw [← hx] at hc1 hc2
      clear hx
      have hk0 : (k : Int) < (n : Int) := by omega
      go_wp2
      go_quiet (fail)
      go_wp2
      go_roundg (n - (k + 1))
      case measure => omega
      case rel => exact ⟨k + 1, _, rfl, by omega, rfl, by go_num⟩
    · go_wp2
      go_ret
      exact ⟨rfl, _, rfl⟩

end Go.Proofs.Qxb6601358a
