/-
  The walk of overlongASCII (24) and ZZoverlongASCII (11).
-/
import Derived.Test.Qxb6601358aBase
import Derived.Test.Qxb6601358aOvPlain
import Derived.Test.Qxb6601358aOvBits
import Derived.Deep.CutBlock
import Derived.Deep.DeepCutAuto
import Derived.Deep.LoopGhost
import Derived.Deep.QuietTactic
import Derived.BigQuiet
namespace Go.Proofs.Qxb6601358a
open Go.ChangeShapes Go.WideShapes Go.ChangeAt Go.RowKit
open Ov
set_option linter.unusedVariables false

theorem Byt.at {zs : List Int} (h : Byt zs) (j : Nat) : 0 ≤ zs.getD j 0 ∧ zs.getD j 0 ≤ 255 := by
  by_cases hj : j < zs.length
  · have e : zs.getD j 0 = zs[j] := by simp [hj]
    rw [e]; exact h _ (List.getElem_mem hj)
  · have e : zs.getD j 0 = 0 := by simp [hj]
    rw [e]; omega

set_option maxHeartbeats 1000000 in
theorem ov_any (a : Option Addr) (n c : Nat) (zs : List Int) (w : World) (hl : zs.length = n) (hn : n ≤ 2097152) (hnc : n ≤ c) (hr : Rd w a zs) (hb : Byt zs) :
    Calls Try.prog 24 #[.slice a n c] w fun e w' => ∃ (r : Int) (m : Nat), e = .returned (.tuple #[.int .u8 r, .int .i64 m]) ∧ Hid (Res zs r m) ∧ ∃ q, w' = w.drewN q := by
  go_enter Try.func24, Try.ntmps24
  go_upto_block 0 with fail
  go_cut [4] (fun s4 wx => w = wx ∧ ∃ k : Nat, k ≤ 6 ∧ k ≤ n ∧ s4 = .int .i64 k ∧ Hid (Trail zs k))
  case first =>
    go_wp2_with fail
    go_loopg [4] 6 (fun g s4 wx => w = wx ∧ ∃ k : Nat, k ≤ 6 ∧ k ≤ n ∧ g = 6 - k ∧ s4 = .int .i64 k ∧ Hid (∀ i, i < k → Cont (zs.getD (n - 1 - i) 0)))
    case atStart => exact ⟨rfl, 0, by omega, by omega, rfl, rfl, fun i hi => by omega⟩
    case round =>
      obtain ⟨rfl, k, hk6, hkn, rfl, rfl, HC⟩ := hrel
      by_cases hlt : k < n
      · by_cases h6 : k < 6
        · obtain ⟨b, off, rfl, hc⟩ := hr (n - 1 - k) (by omega)
          obtain ⟨ch, hch⟩ : ∃ ch, ch = zs.getD (n - 1 - k) 0 := ⟨_, rfl⟩
          have hbt := hb.at (n - 1 - k)
          rw [← hch] at hc hbt
          have Hch : Hid (ch = zs.getD (n - 1 - k) 0) := hch
          clear hch
          have hix : ((n : Int) - 1 - (k : Int)).toNat = n - 1 - k := by omega
          by_cases hcon : 128 ≤ ch ∧ ch < 192
          · have ha := and192_yes ch hcon.1 hcon.2
            go_wp2
            go_roundg (6 - (k + 1))
            case measure => omega
            case rel =>
              refine ⟨rfl, k + 1, by omega, by omega, rfl, by go_num, fun i hi => ?_⟩
              by_cases hik : i = k
              · subst hik; rw [← Hch.out]; exact hcon
              · exact HC.out i (by omega)
          · have ha := and192_no ch hbt.1 hbt.2 hcon
            go_wp2
            go_meet
            case rel =>
              refine ⟨rfl, k, hk6, hkn, rfl, hk6, by omega, ?_, .inr (.inr ?_)⟩
              · rw [hl]; exact HC.out
              · rw [hl, ← Hch.out]; exact hcon
        · obtain rfl : k = 6 := by omega
          go_wp2
          go_meet
          case rel =>
            refine ⟨rfl, 6, hk6, hkn, rfl, hk6, by omega, ?_, .inl rfl⟩
            rw [hl]; exact HC.out
      · obtain rfl : k = n := by omega
        go_wp2
        go_meet
        case rel =>
          refine ⟨rfl, k, hk6, hkn, rfl, hk6, by omega, ?_, .inr (.inl hl.symm)⟩
          rw [hl]; exact HC.out
  case rest =>
    obtain ⟨rfl, k, hk6, hkn, rfl, HT⟩ := hcut
    by_cases h0 : k = 0
    · subst h0
      go_wp2
      go_ret2
      exact ⟨0, 0, rfl, res_none HT.out (.inl rfl), 0, rfl⟩
    · have g0 : ((k : Int) == 0) = false := by simp; omega
      by_cases hkl : k = n
      · subst hkl
        go_wp2
        go_ret2
        exact ⟨0, 0, rfl, res_none HT.out (.inr (.inl hl.symm)), 0, rfl⟩
      · have gn : ((k : Int) == (n : Int)) = false := by simp; omega
        by_cases h5 : 5 < k
        · go_wp2
          go_ret2
          exact ⟨0, 0, rfl, res_none HT.out (.inr (.inr h5)), 0, rfl⟩
        · have RS := res_some HT.out (by omega) (by omega) (by omega)
          have HR : Hid (_) := RS
          clear RS
          rcases four k (by omega) (by omega) with rfl | rfl | rfl | rfl | rfl
          · obtain ⟨b, off, rfl, hc⟩ := hr (n - 2) (by omega)
            obtain ⟨l, hll⟩ : ∃ l, l = zs.getD (n - 2) 0 := ⟨_, rfl⟩
            have hbt := hb.at (n - 2)
            rw [← hll] at hc hbt
            have Hch : Hid (l = zs.getD (n - 2) 0) := hll
            clear hll
            have hix : ((n : Int) - 2).toNat = n - 2 := by omega
            have hnk : ((n - (n - 1) : Nat) : Int) = 1 := by omega
            by_cases hL : l / 32 = 6
            · go_wp2_with fail
              go_quiet (fail)
              go_wp2_with fail
              go_loopg [7, 75] 1 (fun g s7 s75 wx => w.drewN nq = wx ∧ ∃ (j : Nat) (V : Int), j ≤ 1 ∧ g = 1 - j ∧ s75 = .int .i64 j ∧ s7 = .int .i64 V ∧ Hid (V = val (low 1 l) ((zs.drop (n - 1)).take j)))
              case atStart => exact ⟨rfl, 0, _, by omega, rfl, rfl, rfl, rfl⟩
              case round =>
                obtain ⟨rfl, j, V, hj, rfl, rfl, rfl, HV⟩ := hrel
                have hVB := val_lt ((zs.drop (n - 1)).take j) (low 1 l) (by simp only [low]; omega) (by simp only [low]; omega) (by simp; omega)
                rw [← HV.out] at hVB
                obtain ⟨hV0, hV1⟩ := hVB
                by_cases hjk : j < 1
                · obtain ⟨b', off', hab, hc'⟩ := hr (n - 1 + j) (by omega)
                  simp only [Option.some.injEq, Addr.mk.injEq, and_true] at hab
                  obtain ⟨rfl, rfl⟩ := hab
                  obtain ⟨ch, hch⟩ : ∃ ch, ch = zs.getD (n - 1 + j) 0 := ⟨_, rfl⟩
                  have hbt := hb.at (n - 1 + j)
                  rw [← hch] at hc' hbt
                  have Hn : Hid (val (low 1 l) ((zs.drop (n - 1)).take (j + 1)) = V * 64 + ch % 64) := by
                    rw [val_next zs _ (n - 1) j (by omega), ← hch, ← HV.out]; exact rfl
                  clear hch
                  rw [← Nat.add_assoc] at hc'
                  have hor := or_i64 V (ch % 64) hV0 hV1 (by omega) (by omega)
                  go_wp2
                  go_roundg (1 - (j + 1))
                  case measure => omega
                  case rel => exact ⟨rfl, j + 1, _, by omega, rfl, by go_num, rfl, Hn.out.symm⟩
                · obtain rfl : j = 1 := by omega
                  have hV : Hid (V = val (low 1 (zs.getD (zs.length - (1 + 1)) 0)) (zs.drop (zs.length - 1))) := by
                    rw [hl, ← Hch.out]
                    have := HV.out
                    rw [List.take_of_length_le (by simp; omega)] at this
                    exact this
                  have hLd : Hid (Lead 1 (zs.getD (zs.length - (1 + 1)) 0)) := by rw [hl, ← Hch.out]; exact hL
                  by_cases h128 : 128 ≤ V
                  · go_wp2
                    go_ret2
                    exact ⟨0, 0, rfl, HR.out.2.1 hLd.out (by rw [← hV.out]; exact h128), _, rfl⟩
                  · go_wp2
                    go_ret2
                    refine ⟨V, 2, rfl, ?_, _, rfl⟩
                    have := HR.out.2.2 hLd.out (by rw [← hV.out]; omega)
                    rw [← hV.out] at this
                    exact this
            · go_wp2_with fail
              go_quiet (fail)
              go_wp2
              go_ret2
              refine ⟨0, 0, rfl, ?_, _, rfl⟩
              refine HR.out.1 ?_
              rw [hl, ← Hch.out]
              exact hL
          · obtain ⟨b, off, rfl, hc⟩ := hr (n - 3) (by omega)
            obtain ⟨l, hll⟩ : ∃ l, l = zs.getD (n - 3) 0 := ⟨_, rfl⟩
            have hbt := hb.at (n - 3)
            rw [← hll] at hc hbt
            have Hch : Hid (l = zs.getD (n - 3) 0) := hll
            clear hll
            have hix : ((n : Int) - 3).toNat = n - 3 := by omega
            have hnk : ((n - (n - 2) : Nat) : Int) = 2 := by omega
            by_cases hL : l / 16 = 14
            · go_wp2_with fail
              go_quiet (fail)
              go_wp2_with fail
              go_loopg [7, 75] 2 (fun g s7 s75 wx => w.drewN nq = wx ∧ ∃ (j : Nat) (V : Int), j ≤ 2 ∧ g = 2 - j ∧ s75 = .int .i64 j ∧ s7 = .int .i64 V ∧ Hid (V = val (low 2 l) ((zs.drop (n - 2)).take j)))
              case atStart => exact ⟨rfl, 0, _, by omega, rfl, rfl, rfl, rfl⟩
              case round =>
                obtain ⟨rfl, j, V, hj, rfl, rfl, rfl, HV⟩ := hrel
                have hVB := val_lt ((zs.drop (n - 2)).take j) (low 2 l) (by simp only [low]; omega) (by simp only [low]; omega) (by simp; omega)
                rw [← HV.out] at hVB
                obtain ⟨hV0, hV1⟩ := hVB
                by_cases hjk : j < 2
                · obtain ⟨b', off', hab, hc'⟩ := hr (n - 2 + j) (by omega)
                  simp only [Option.some.injEq, Addr.mk.injEq, and_true] at hab
                  obtain ⟨rfl, rfl⟩ := hab
                  obtain ⟨ch, hch⟩ : ∃ ch, ch = zs.getD (n - 2 + j) 0 := ⟨_, rfl⟩
                  have hbt := hb.at (n - 2 + j)
                  rw [← hch] at hc' hbt
                  have Hn : Hid (val (low 2 l) ((zs.drop (n - 2)).take (j + 1)) = V * 64 + ch % 64) := by
                    rw [val_next zs _ (n - 2) j (by omega), ← hch, ← HV.out]; exact rfl
                  clear hch
                  rw [← Nat.add_assoc] at hc'
                  have hor := or_i64 V (ch % 64) hV0 hV1 (by omega) (by omega)
                  go_wp2
                  go_roundg (2 - (j + 1))
                  case measure => omega
                  case rel => exact ⟨rfl, j + 1, _, by omega, rfl, by go_num, rfl, Hn.out.symm⟩
                · obtain rfl : j = 2 := by omega
                  have hV : Hid (V = val (low 2 (zs.getD (zs.length - (2 + 1)) 0)) (zs.drop (zs.length - 2))) := by
                    rw [hl, ← Hch.out]
                    have := HV.out
                    rw [List.take_of_length_le (by simp; omega)] at this
                    exact this
                  have hLd : Hid (Lead 2 (zs.getD (zs.length - (2 + 1)) 0)) := by rw [hl, ← Hch.out]; exact hL
                  by_cases h128 : 128 ≤ V
                  · go_wp2
                    go_ret2
                    exact ⟨0, 0, rfl, HR.out.2.1 hLd.out (by rw [← hV.out]; exact h128), _, rfl⟩
                  · go_wp2
                    go_ret2
                    refine ⟨V, 3, rfl, ?_, _, rfl⟩
                    have := HR.out.2.2 hLd.out (by rw [← hV.out]; omega)
                    rw [← hV.out] at this
                    exact this
            · go_wp2_with fail
              go_quiet (fail)
              go_wp2
              go_ret2
              refine ⟨0, 0, rfl, ?_, _, rfl⟩
              refine HR.out.1 ?_
              rw [hl, ← Hch.out]
              exact hL
          · obtain ⟨b, off, rfl, hc⟩ := hr (n - 4) (by omega)
            obtain ⟨l, hll⟩ : ∃ l, l = zs.getD (n - 4) 0 := ⟨_, rfl⟩
            have hbt := hb.at (n - 4)
            rw [← hll] at hc hbt
            have Hch : Hid (l = zs.getD (n - 4) 0) := hll
            clear hll
            have hix : ((n : Int) - 4).toNat = n - 4 := by omega
            have hnk : ((n - (n - 3) : Nat) : Int) = 3 := by omega
            by_cases hL : l / 8 = 30
            · go_wp2_with fail
              go_quiet (fail)
              go_wp2_with fail
              go_loopg [7, 75] 3 (fun g s7 s75 wx => w.drewN nq = wx ∧ ∃ (j : Nat) (V : Int), j ≤ 3 ∧ g = 3 - j ∧ s75 = .int .i64 j ∧ s7 = .int .i64 V ∧ Hid (V = val (low 3 l) ((zs.drop (n - 3)).take j)))
              case atStart => exact ⟨rfl, 0, _, by omega, rfl, rfl, rfl, rfl⟩
              case round =>
                obtain ⟨rfl, j, V, hj, rfl, rfl, rfl, HV⟩ := hrel
                have hVB := val_lt ((zs.drop (n - 3)).take j) (low 3 l) (by simp only [low]; omega) (by simp only [low]; omega) (by simp; omega)
                rw [← HV.out] at hVB
                obtain ⟨hV0, hV1⟩ := hVB
                by_cases hjk : j < 3
                · obtain ⟨b', off', hab, hc'⟩ := hr (n - 3 + j) (by omega)
                  simp only [Option.some.injEq, Addr.mk.injEq, and_true] at hab
                  obtain ⟨rfl, rfl⟩ := hab
                  obtain ⟨ch, hch⟩ : ∃ ch, ch = zs.getD (n - 3 + j) 0 := ⟨_, rfl⟩
                  have hbt := hb.at (n - 3 + j)
                  rw [← hch] at hc' hbt
                  have Hn : Hid (val (low 3 l) ((zs.drop (n - 3)).take (j + 1)) = V * 64 + ch % 64) := by
                    rw [val_next zs _ (n - 3) j (by omega), ← hch, ← HV.out]; exact rfl
                  clear hch
                  rw [← Nat.add_assoc] at hc'
                  have hor := or_i64 V (ch % 64) hV0 hV1 (by omega) (by omega)
                  go_wp2
                  go_roundg (3 - (j + 1))
                  case measure => omega
                  case rel => exact ⟨rfl, j + 1, _, by omega, rfl, by go_num, rfl, Hn.out.symm⟩
                · obtain rfl : j = 3 := by omega
                  have hV : Hid (V = val (low 3 (zs.getD (zs.length - (3 + 1)) 0)) (zs.drop (zs.length - 3))) := by
                    rw [hl, ← Hch.out]
                    have := HV.out
                    rw [List.take_of_length_le (by simp; omega)] at this
                    exact this
                  have hLd : Hid (Lead 3 (zs.getD (zs.length - (3 + 1)) 0)) := by rw [hl, ← Hch.out]; exact hL
                  by_cases h128 : 128 ≤ V
                  · go_wp2
                    go_ret2
                    exact ⟨0, 0, rfl, HR.out.2.1 hLd.out (by rw [← hV.out]; exact h128), _, rfl⟩
                  · go_wp2
                    go_ret2
                    refine ⟨V, 4, rfl, ?_, _, rfl⟩
                    have := HR.out.2.2 hLd.out (by rw [← hV.out]; omega)
                    rw [← hV.out] at this
                    exact this
            · go_wp2_with fail
              go_quiet (fail)
              go_wp2
              go_ret2
              refine ⟨0, 0, rfl, ?_, _, rfl⟩
              refine HR.out.1 ?_
              rw [hl, ← Hch.out]
              exact hL
          · obtain ⟨b, off, rfl, hc⟩ := hr (n - 5) (by omega)
            obtain ⟨l, hll⟩ : ∃ l, l = zs.getD (n - 5) 0 := ⟨_, rfl⟩
            have hbt := hb.at (n - 5)
            rw [← hll] at hc hbt
            have Hch : Hid (l = zs.getD (n - 5) 0) := hll
            clear hll
            have hix : ((n : Int) - 5).toNat = n - 5 := by omega
            have hnk : ((n - (n - 4) : Nat) : Int) = 4 := by omega
            have hand := and3 l hbt.1 hbt.2
            by_cases hL : l / 4 = 62
            · go_wp2_with fail
              go_quiet (fail)
              go_wp2_with fail
              go_loopg [7, 75] 4 (fun g s7 s75 wx => w.drewN nq = wx ∧ ∃ (j : Nat) (V : Int), j ≤ 4 ∧ g = 4 - j ∧ s75 = .int .i64 j ∧ s7 = .int .i64 V ∧ Hid (V = val (low 4 l) ((zs.drop (n - 4)).take j)))
              case atStart => exact ⟨rfl, 0, _, by omega, rfl, rfl, rfl, rfl⟩
              case round =>
                obtain ⟨rfl, j, V, hj, rfl, rfl, rfl, HV⟩ := hrel
                have hVB := val_lt ((zs.drop (n - 4)).take j) (low 4 l) (by simp only [low]; omega) (by simp only [low]; omega) (by simp; omega)
                rw [← HV.out] at hVB
                obtain ⟨hV0, hV1⟩ := hVB
                by_cases hjk : j < 4
                · obtain ⟨b', off', hab, hc'⟩ := hr (n - 4 + j) (by omega)
                  simp only [Option.some.injEq, Addr.mk.injEq, and_true] at hab
                  obtain ⟨rfl, rfl⟩ := hab
                  obtain ⟨ch, hch⟩ : ∃ ch, ch = zs.getD (n - 4 + j) 0 := ⟨_, rfl⟩
                  have hbt := hb.at (n - 4 + j)
                  rw [← hch] at hc' hbt
                  have Hn : Hid (val (low 4 l) ((zs.drop (n - 4)).take (j + 1)) = V * 64 + ch % 64) := by
                    rw [val_next zs _ (n - 4) j (by omega), ← hch, ← HV.out]; exact rfl
                  clear hch
                  rw [← Nat.add_assoc] at hc'
                  have hor := or_i64 V (ch % 64) hV0 hV1 (by omega) (by omega)
                  go_wp2
                  go_roundg (4 - (j + 1))
                  case measure => omega
                  case rel => exact ⟨rfl, j + 1, _, by omega, rfl, by go_num, rfl, Hn.out.symm⟩
                · obtain rfl : j = 4 := by omega
                  have hV : Hid (V = val (low 4 (zs.getD (zs.length - (4 + 1)) 0)) (zs.drop (zs.length - 4))) := by
                    rw [hl, ← Hch.out]
                    have := HV.out
                    rw [List.take_of_length_le (by simp; omega)] at this
                    exact this
                  have hLd : Hid (Lead 4 (zs.getD (zs.length - (4 + 1)) 0)) := by rw [hl, ← Hch.out]; exact hL
                  by_cases h128 : 128 ≤ V
                  · go_wp2
                    go_ret2
                    exact ⟨0, 0, rfl, HR.out.2.1 hLd.out (by rw [← hV.out]; exact h128), _, rfl⟩
                  · go_wp2
                    go_ret2
                    refine ⟨V, 5, rfl, ?_, _, rfl⟩
                    have := HR.out.2.2 hLd.out (by rw [← hV.out]; omega)
                    rw [← hV.out] at this
                    exact this
            · go_wp2_with fail
              go_quiet (fail)
              go_wp2
              go_ret2
              refine ⟨0, 0, rfl, ?_, _, rfl⟩
              refine HR.out.1 ?_
              rw [hl, ← Hch.out]
              exact hL
          · obtain ⟨b, off, rfl, hc⟩ := hr (n - 6) (by omega)
            obtain ⟨l, hll⟩ : ∃ l, l = zs.getD (n - 6) 0 := ⟨_, rfl⟩
            have hbt := hb.at (n - 6)
            rw [← hll] at hc hbt
            have Hch : Hid (l = zs.getD (n - 6) 0) := hll
            clear hll
            have hix : ((n : Int) - 6).toNat = n - 6 := by omega
            have hnk : ((n - (n - 5) : Nat) : Int) = 5 := by omega
            have hand := and1 l hbt.1 hbt.2
            by_cases hL : l / 2 = 126
            · go_wp2_with fail
              go_quiet (fail)
              go_wp2_with fail
              go_loopg [7, 75] 5 (fun g s7 s75 wx => w.drewN nq = wx ∧ ∃ (j : Nat) (V : Int), j ≤ 5 ∧ g = 5 - j ∧ s75 = .int .i64 j ∧ s7 = .int .i64 V ∧ Hid (V = val (low 5 l) ((zs.drop (n - 5)).take j)))
              case atStart => exact ⟨rfl, 0, _, by omega, rfl, rfl, rfl, rfl⟩
              case round =>
                obtain ⟨rfl, j, V, hj, rfl, rfl, rfl, HV⟩ := hrel
                have hVB := val_lt ((zs.drop (n - 5)).take j) (low 5 l) (by simp only [low]; omega) (by simp only [low]; omega) (by simp; omega)
                rw [← HV.out] at hVB
                obtain ⟨hV0, hV1⟩ := hVB
                by_cases hjk : j < 5
                · obtain ⟨b', off', hab, hc'⟩ := hr (n - 5 + j) (by omega)
                  simp only [Option.some.injEq, Addr.mk.injEq, and_true] at hab
                  obtain ⟨rfl, rfl⟩ := hab
                  obtain ⟨ch, hch⟩ : ∃ ch, ch = zs.getD (n - 5 + j) 0 := ⟨_, rfl⟩
                  have hbt := hb.at (n - 5 + j)
                  rw [← hch] at hc' hbt
                  have Hn : Hid (val (low 5 l) ((zs.drop (n - 5)).take (j + 1)) = V * 64 + ch % 64) := by
                    rw [val_next zs _ (n - 5) j (by omega), ← hch, ← HV.out]; exact rfl
                  clear hch
                  rw [← Nat.add_assoc] at hc'
                  have hor := or_i64 V (ch % 64) hV0 hV1 (by omega) (by omega)
                  go_wp2
                  go_roundg (5 - (j + 1))
                  case measure => omega
                  case rel => exact ⟨rfl, j + 1, _, by omega, rfl, by go_num, rfl, Hn.out.symm⟩
                · obtain rfl : j = 5 := by omega
                  have hV : Hid (V = val (low 5 (zs.getD (zs.length - (5 + 1)) 0)) (zs.drop (zs.length - 5))) := by
                    rw [hl, ← Hch.out]
                    have := HV.out
                    rw [List.take_of_length_le (by simp; omega)] at this
                    exact this
                  have hLd : Hid (Lead 5 (zs.getD (zs.length - (5 + 1)) 0)) := by rw [hl, ← Hch.out]; exact hL
                  by_cases h128 : 128 ≤ V
                  · go_wp2
                    go_ret2
                    exact ⟨0, 0, rfl, HR.out.2.1 hLd.out (by rw [← hV.out]; exact h128), _, rfl⟩
                  · go_wp2
                    go_ret2
                    refine ⟨V, 6, rfl, ?_, _, rfl⟩
                    have := HR.out.2.2 hLd.out (by rw [← hV.out]; omega)
                    rw [← hV.out] at this
                    exact this
            · go_wp2_with fail
              go_quiet (fail)
              go_wp2
              go_ret2
              refine ⟨0, 0, rfl, ?_, _, rfl⟩
              refine HR.out.1 ?_
              rw [hl, ← Hch.out]
              exact hL

theorem zzov_any (a : Option Addr) (n c : Nat) (zs : List Int) (w : World) (hl : zs.length = n) (hn : n ≤ 2097152) (hnc : n ≤ c) (hr : Rd w a zs) (hb : Byt zs) :
    Calls Try.prog 11 #[.slice a n c] w fun e w' => ∃ (r : Int) (m : Nat), e = .returned (.tuple #[.int .u8 r, .int .i64 m]) ∧ Hid (Res zs r m) ∧ ∃ q, w' = w.drewN q := by
  go_enter Try.func11, Try.ntmps11
  go_wp2_with (go_at_call 24; refine (ov_any a n c zs _ hl hn hnc hr hb).mono ?_; rintro e w' ⟨r, m, rfl, HR, q, rfl⟩)
  go_ret2
  exact ⟨_, _, rfl, by assumption, _, rfl⟩

end Go.Proofs.Qxb6601358a
