/-
  The walks of holdsDotPart (26), ZZholdsDotPart (16) and zzHasDotOnlyPartRB1 (17).
-/
import Derived.Test.Qxb6601358aBase
import Derived.Test.Qxb6601358aDotPlain
import Derived.Deep.CutBlock
import Derived.Deep.DeepCutAuto
import Derived.Deep.LoopGhost
namespace Go.Proofs.Qxb6601358a
open Go.ChangeShapes Go.WideShapes Go.ChangeAt Go.RowKit
open Dot
set_option linter.unusedVariables false

set_option maxHeartbeats 400000 in
theorem holds_any (a : Option Addr) (n c : Nat) (zs : List Int) (w : World) (hl : zs.length = n) (hn : n ≤ 1048576) (hr : Rd w a zs) :
    Calls Try.prog 26 #[.slice a n c] w fun e w' => e = .returned (.bool (rest zs 0)) ∧ w' = w := by
  obtain ⟨T, hT⟩ : ∃ T, T = rest zs 0 := ⟨_, rfl⟩
  rw [← hT]
  have HT : Hid (T = rest zs 0) := hT
  clear hT
  go_enter Try.func26, Try.ntmps26
  go_wp2
  go_loop [3, 4, 5, 6] (fun d o p i => ∃ (k D : Nat) (O P : Bool), k ≤ n + 1 ∧ D ≤ k ∧ i = .int .i64 k ∧ d = .int .i64 D ∧ o = .bool O ∧ p = .bool P ∧ Hid (k ≤ n → T = hdp (zs.drop k) D O P) ∧ Hid (n < k → T = false)) (fun _ _ _ i => n + 1 - (intOf i).toNat)
  case atStart => exact ⟨0, 0, false, false, by omega, by omega, rfl, rfl, rfl, rfl, fun _ => HT.out.trans (rest_in _ _ (by omega)), fun h => by omega⟩
  case round =>
    obtain ⟨k, D, O, P, hk, hD, rfl, rfl, rfl, rfl, h1, h2⟩ := hrel
    by_cases hkn : k ≤ n
    · by_cases hlt : k < n
      · obtain ⟨b, off, rfl, hc⟩ := hr k (by omega)
        obtain ⟨ch, hch⟩ : ∃ ch, ch = zs.getD k 0 := ⟨_, rfl⟩
        rw [← hch] at hc
        have H : Hid (T = hdp (ch :: zs.drop (k + 1)) D O P) := (h1.out hkn).trans (by rw [drop_cons zs k (by omega), hch])
        clear hch h1 h2
        have hne : ((k : Int) == (n : Int)) = false := by simp; omega
        have hKn : Hid (k + 1 ≤ n) := hlt
        by_cases hsep : ch = 47 ∨ ch = 92
        · have H' := H.out
          rw [hdp_sep _ _ _ _ _ hsep] at H'
          by_cases hd : 0 < D
          · cases O with
            | false =>
              have HT : Hid (T = true) := by rw [H']; simp [hd, Hid]
              clear H H'
              rcases hsep with rfl | rfl
              all_goals
                go_wp2
                go_ret
                exact ⟨ret_bool HT.out.symm, rfl⟩
            | true =>
              have HT : Hid (T = hdp (zs.drop (k + 1)) 0 false false) := by rw [H']; simp [Hid]
              clear H H'
              rcases hsep with rfl | rfl
              all_goals
                go_wp2
                go_round
                case rel => exact ⟨k + 1, 0, false, false, by omega, by omega, by go_num, rfl, rfl, rfl, fun _ => HT.out, fun h => by omega⟩
                case measure => simp [intOf]; omega
          · have HT : Hid (T = hdp (zs.drop (k + 1)) 0 false false) := by rw [H']; simp [hd, Hid]
            clear H H'
            rcases hsep with rfl | rfl
            all_goals
              go_wp2
              go_round
              case rel => exact ⟨k + 1, 0, false, false, by omega, by omega, by go_num, rfl, rfl, rfl, fun _ => HT.out, fun h => by omega⟩
              case measure => simp [intOf]; omega
        · have g47 : (ch == 47) = false := by simp; omega
          have g92 : (ch == 92) = false := by simp; omega
          cases P with
          | true =>
            have HT : Hid (T = hdp (zs.drop (k + 1)) D O true) := by rw [H.out, hdp_par _ _ _ _ hsep]; exact rfl
            clear H hsep
            go_wp2
            go_round
            case rel => exact ⟨k + 1, D, O, true, by omega, by omega, by go_num, rfl, rfl, rfl, fun _ => HT.out, fun h => by omega⟩
            case measure => simp [intOf]; omega
          | false =>
            by_cases h59 : ch = 59
            · have HT : Hid (T = hdp (zs.drop (k + 1)) D O true) := by rw [H.out, hdp_semi _ _ _ _ h59]; exact rfl
              clear H hsep
              subst h59
              go_wp2
              go_round
              case rel => exact ⟨k + 1, D, O, true, by omega, by omega, by go_num, rfl, rfl, rfl, fun _ => HT.out, fun h => by omega⟩
              case measure => simp [intOf]; omega
            · have g59 : (ch == 59) = false := by simp; omega
              by_cases h46 : ch = 46
              · have HT : Hid (T = hdp (zs.drop (k + 1)) (D + 1) O false) := by rw [H.out, hdp_dot _ _ _ _ h46]; exact rfl
                clear H hsep
                subst h46
                go_wp2
                go_round
                case rel => exact ⟨k + 1, D + 1, O, false, by omega, by omega, by go_num, by go_num, rfl, rfl, fun _ => HT.out, fun h => by omega⟩
                case measure => simp [intOf]; omega
              · have g46 : (ch == 46) = false := by simp; omega
                have HT : Hid (T = hdp (zs.drop (k + 1)) D true false) := by rw [H.out, hdp_other _ _ _ _ hsep h59 h46]; exact rfl
                clear H hsep
                go_wp2
                go_round
                case rel => exact ⟨k + 1, D, true, false, by omega, by omega, by go_num, rfl, rfl, rfl, fun _ => HT.out, fun h => by omega⟩
                case measure => simp [intOf]; omega
      · obtain rfl : k = n := by omega
        have H : Hid (T = (decide (0 < D) && !O)) := (h1.out hkn).trans (by rw [← hl, List.drop_length, hdp_nil])
        clear h1 h2
        by_cases hd : 0 < D
        · cases O with
          | false =>
            have HT : Hid (T = true) := by rw [H.out]; simp [hd, Hid]
            clear H
            go_wp2
            go_ret
            exact ⟨ret_bool HT.out.symm, rfl⟩
          | true =>
            have HT : Hid (T = false) := by rw [H.out]; simp [Hid]
            clear H
            go_wp2
            go_round
            case rel => exact ⟨k + 1, 0, false, false, by omega, by omega, by go_num, rfl, rfl, rfl, fun h => by omega, fun h => HT.out⟩
            case measure => simp [intOf]
        · have HT : Hid (T = false) := by rw [H.out]; simp [hd, Hid]
          clear H
          go_wp2
          go_round
          case rel => exact ⟨k + 1, 0, false, false, by omega, by omega, by go_num, rfl, rfl, rfl, fun h => by omega, fun h => HT.out⟩
          case measure => simp [intOf]
    · go_wp2
      go_ret
      exact ⟨ret_bool (h2.out (by omega)).symm, rfl⟩


theorem zzholds_any (a : Option Addr) (n c : Nat) (zs : List Int) (w : World) (hl : zs.length = n) (hn : n ≤ 1048576) (hr : Rd w a zs) :
    Calls Try.prog 16 #[.slice a n c] w fun e w' => e = .returned (.bool (rest zs 0)) ∧ w' = w := by
  go_enter Try.func16, Try.ntmps16
  go_wp2_with (go_at_call 26; refine (holds_any a n c zs _ hl hn hr).mono ?_; rintro e w' ⟨rfl, rfl⟩)
  go_ret
  exact ⟨rfl, rfl⟩

end Go.Proofs.Qxb6601358a
