/-
  The walk of zzHasDotOnlyPartRB1 (17).
-/
import Derived.Test.Qxb6601358aBase
import Derived.Test.Qxb6601358aDotPlain
import Derived.Deep.CutBlock
import Derived.Deep.DeepCutAuto
import Derived.Deep.LoopGhost
namespace Go.Proofs.Qxb6601358a
open Go.ChangeShapes Go.WideShapes Go.ChangeAt Go.RowKit
open Dot
set_option linter.unusedVariables false

set_option maxHeartbeats 1000000 in
theorem has_any (a : Option Addr) (n c : Nat) (zs : List Int) (w : World) (hl : zs.length = n) (hn : n ≤ 1048576) (hr : Rd w a zs) :
    Calls Try.prog 17 #[.slice a n c] w fun e w' => e = .returned (.bool (rest zs 0)) ∧ w' = w := by
  obtain ⟨T, hT⟩ : ∃ T, T = rest zs 0 := ⟨_, rfl⟩
  rw [← hT]
  have HT : Hid (T = rest zs 0) := hT
  clear hT
  go_enter Try.func17, Try.ntmps17
  go_wp2
  go_loopg [3] (n + 1) (fun g s3 wx => w = wx ∧ ∃ s : Nat, s ≤ n + 1 ∧ g = n + 1 - s ∧ s3 = .int .i64 s ∧ Hid (T = rest zs s))
  case atStart => exact ⟨rfl, 0, by omega, rfl, rfl, HT.out⟩
  case round =>
    obtain ⟨rfl, s, hs, rfl, rfl, HTs⟩ := hrel
    clear HT
    by_cases hsn : s ≤ n
    · go_upto_block 2 with fail
      go_cut [4] (fun s4 wx => w = wx ∧ ∃ e : Nat, s ≤ e ∧ e ≤ n ∧ s4 = .int .i64 e ∧ Hid (∀ j, s ≤ j → j < e → ¬ (zs.getD j 0 = 47 ∨ zs.getD j 0 = 92)) ∧ Hid (e < n → zs.getD e 0 = 47 ∨ zs.getD e 0 = 92))
      case first =>
        go_wp2_with fail
        go_loopg [4] (n - s) (fun g s4 wx => w = wx ∧ ∃ e : Nat, s ≤ e ∧ e ≤ n ∧ g = n - e ∧ s4 = .int .i64 e ∧ Hid (∀ j, s ≤ j → j < e → ¬ (zs.getD j 0 = 47 ∨ zs.getD j 0 = 92)))
        case atStart => exact ⟨rfl, s, by omega, by omega, rfl, rfl, fun j h1 h2 => by omega⟩
        case round =>
          obtain ⟨rfl, e, hse, hen, rfl, rfl, HN⟩ := hrel
          by_cases hlt : e < n
          · obtain ⟨b, off, rfl, hc⟩ := hr e (by omega)
            obtain ⟨ch, hch⟩ : ∃ ch, ch = zs.getD e 0 := ⟨_, rfl⟩
            rw [← hch] at hc
            have Hch : Hid (ch = zs.getD e 0) := hch
            clear hch
            by_cases h47 : ch = 47
            · subst h47
              go_wp2
              go_meet
              case rel => exact ⟨rfl, e, hse, hen, rfl, HN, fun _ => .inl Hch.out.symm⟩
            · have g47 : (ch != 47) = true := by simp; omega
              by_cases h92 : ch = 92
              · subst h92
                go_wp2
                go_meet
                case rel => exact ⟨rfl, e, hse, hen, rfl, HN, fun _ => .inr Hch.out.symm⟩
              · have g92 : (ch != 92) = true := by simp; omega
                go_wp2
                go_roundg (n - (e + 1))
                case measure => omega
                case rel =>
                  refine ⟨rfl, e + 1, by omega, by omega, rfl, by go_num, fun j h1 h2 => ?_⟩
                  by_cases hj : j = e
                  · subst hj; rw [← Hch.out]; omega
                  · exact HN.out j h1 (by omega)
          · go_wp2
            go_meet
            case rel => exact ⟨rfl, e, hse, hen, rfl, HN, fun h => by omega⟩
      case rest =>
        obtain ⟨rfl, e, hse, hen, rfl, HN, HS⟩ := hcut
        go_upto_block 4 with fail
        go_cut [5] (fun s5 wx => w = wx ∧ ∃ h : Nat, s ≤ h ∧ h ≤ e ∧ s5 = .int .i64 h ∧ Hid (∀ j, s ≤ j → j < h → zs.getD j 0 ≠ 59) ∧ Hid (h < e → zs.getD h 0 = 59))
        case first =>
          go_wp2_with fail
          go_loopg [5, 6] (e - s) (fun g s5 s6 wx => w = wx ∧ ∃ j : Nat, s ≤ j ∧ j ≤ e ∧ g = e - j ∧ s5 = .int .i64 e ∧ s6 = .int .i64 j ∧ Hid (∀ i, s ≤ i → i < j → zs.getD i 0 ≠ 59))
          case atStart => exact ⟨rfl, s, by omega, by omega, rfl, rfl, rfl, fun j h1 h2 => by omega⟩
          case round =>
            obtain ⟨rfl, j, hsj, hje, rfl, rfl, rfl, H59⟩ := hrel
            by_cases hlt : j < e
            · obtain ⟨b, off, rfl, hc⟩ := hr j (by omega)
              obtain ⟨ch, hch⟩ : ∃ ch, ch = zs.getD j 0 := ⟨_, rfl⟩
              rw [← hch] at hc
              have Hch : Hid (ch = zs.getD j 0) := hch
              clear hch
              have hjn : j < n := by omega
              by_cases h59 : ch = 59
              · subst h59
                go_wp2
                go_meet
                case rel => exact ⟨rfl, j, hsj, hje, rfl, H59, fun _ => Hch.out.symm⟩
              · have g59 : (ch == 59) = false := by simp; omega
                go_wp2
                go_roundg (e - (j + 1))
                case measure => omega
                case rel =>
                  refine ⟨rfl, j + 1, by omega, by omega, rfl, rfl, by go_num, fun i h1 h2 => ?_⟩
                  by_cases hj : i = j
                  · subst hj; rw [← Hch.out]; exact h59
                  · exact H59.out i h1 (by omega)
            · obtain rfl : j = e := by omega
              go_wp2
              go_meet
              case rel => exact ⟨rfl, j, hsj, hje, rfl, H59, fun h => by omega⟩
        case rest =>
          obtain ⟨rfl, h, hsh, hhe, rfl, H59, HS9⟩ := hcut
          have PT : Hid (_) := Dot.part zs s h e hsh hhe (by omega) HN.out (by rw [hl]; exact HS.out) H59.out HS9.out
          clear HN HS H59 HS9
          by_cases hlt : s < h
          · go_wp2_with fail
            go_loopg [7, 8] (h - s) (fun g s7 s8 wx => w = wx ∧ ∃ j : Nat, s ≤ j ∧ j ≤ h ∧ g = h - j ∧ s7 = .bool true ∧ s8 = .int .i64 j ∧ Hid (∀ i, s ≤ i → i < j → zs.getD i 0 = 46))
            case atStart => exact ⟨rfl, s, by omega, by omega, rfl, rfl, rfl, fun j h1 h2 => by omega⟩
            case round =>
              obtain ⟨rfl, j, hsj, hjh, rfl, rfl, rfl, H46⟩ := hrel
              by_cases hjlt : j < h
              · obtain ⟨b, off, rfl, hc⟩ := hr j (by omega)
                obtain ⟨ch, hch⟩ : ∃ ch, ch = zs.getD j 0 := ⟨_, rfl⟩
                rw [← hch] at hc
                have Hch : Hid (ch = zs.getD j 0) := hch
                clear hch
                have hjn : j < n := by omega
                by_cases h46 : ch = 46
                · subst h46
                  go_wp2
                  go_roundg (h - (j + 1))
                  case measure => omega
                  case rel =>
                    refine ⟨rfl, j + 1, by omega, by omega, rfl, rfl, by go_num, fun i h1 h2 => ?_⟩
                    by_cases hj : i = j
                    · subst hj; exact Hch.out.symm
                    · exact H46.out i h1 (by omega)
                · have g46 : (ch != 46) = true := by simp; omega
                  go_wp2
                  go_roundg (n + 1 - (e + 1))
                  case measure => omega
                  case rel =>
                    refine ⟨rfl, e + 1, by omega, rfl, by go_num, ?_⟩
                    rcases PT.out with ⟨_, _, h1⟩ | ⟨h1, _⟩
                    · exact absurd (Hch.out.trans (h1 j hsj hjlt)) h46
                    · exact HTs.out.trans h1
              · obtain rfl : j = h := by omega
                go_wp2
                go_ret
                refine ⟨ret_bool (Eq.symm ?_), rfl⟩
                rcases PT.out with ⟨h1, _⟩ | ⟨_, h1⟩
                · exact HTs.out.trans h1
                · exact absurd ⟨hlt, H46.out⟩ h1
          · go_wp2
            go_roundg (n + 1 - (e + 1))
            case measure => omega
            case rel =>
              refine ⟨rfl, e + 1, by omega, rfl, by go_num, ?_⟩
              rcases PT.out with ⟨_, h1, _⟩ | ⟨h1, _⟩
              · omega
              · exact HTs.out.trans h1
    · go_wp2
      go_ret
      exact ⟨ret_bool (HTs.out.trans (rest_out _ _ (by omega))).symm, rfl⟩

end Go.Proofs.Qxb6601358a
