/-
  The walks of zzLeadPrefixRB1 (25), zzOverlongAtRB1 (32) and zzRedexAtRB1 (28).
-/
import Derived.Test.Qxb6601358aHexWalk
import Derived.Test.Qxb6601358aRedexPlain
import Derived.Test.Qxb6601358aOvWalk
namespace Go.Proofs.Qxb6601358a
open Go.ChangeShapes Go.WideShapes Go.ChangeAt Go.RowKit
open Ov Deep
set_option linter.unusedVariables false

theorem lead_any (n : Nat) (h1 : 2 ≤ n) (h2 : n ≤ 6) (w : World) : Calls Try.prog 25 #[.int .i64 (n : Int)] w fun e w' => e = .returned (.int .u8 (leadOf n)) ∧ w' = w := by
  rcases five h1 h2 with rfl | rfl | rfl | rfl | rfl
  all_goals
    go_enter Try.func25, Try.ntmps25
    go_wp2
    go_ret
    exact ⟨rfl, rfl⟩

set_option maxHeartbeats 400000 in
theorem ovAt_2 (a : Option Addr) (n c i : Nat) (zs : List Int) (w : World) (hl : zs.length = n) (hn : n ≤ 2097152) (hr : Rd w a zs) (hb : Byt zs) (hi : i + 2 ≤ n) :
    Calls Try.prog 32 #[.slice a n c, .int .i64 (i : Int), .int .i64 2] w fun e w' => ∃ r : Bool, e = .returned (.bool r) ∧ Hid (r = true ↔ ∃ c, OvAt zs i 2 c) ∧ ∃ q, w' = w.drewN q := by
  obtain ⟨b, off, rfl, hc0⟩ := hr i (by omega)
  obtain ⟨b', off', hab, hc1⟩ := hr (i + 1) (by omega)
  simp only [Option.some.injEq, Addr.mk.injEq, and_true] at hab
  obtain ⟨rfl, rfl⟩ := hab
  have hb0 := hb.at i
  have hb1 := hb.at (i + 1)
  have IFF : Hid (∀ c, OvAt zs i 2 c ↔ _) := ovAt_two zs i (by omega)
  generalize zs.getD i 0 = x at hc0 hb0 IFF
  generalize zs.getD (i + 1) 0 = y at hc1 hb1 IFF
  have hi1 : ((i : Int) + 1).toNat = i + 1 := by omega
  have hi2 : (i : Int) < n := by omega
  have hi3 : (i : Int) + 1 < n := by omega
  by_cases h0 : x = 192 ∨ x = 193
  · have h254 : bits .and .u8 x 254 = 192 := by rw [and254 x hb0.1 hb0.2]; omega
    by_cases h1 : 128 ≤ y ∧ y < 192
    · have h192 := and192_yes y h1.1 h1.2
      go_enter Try.func32, Try.ntmps32
      go_wp2
      go_ret
      exact ⟨true, rfl, ⟨fun _ => ⟨_, (IFF.out _).2 ⟨h0, h1, rfl⟩⟩, fun _ => rfl⟩, 0, rfl⟩
    · have h192 := and192_no y hb1.1 hb1.2 h1
      go_enter Try.func32, Try.ntmps32
      go_wp2
      go_ret
      exact ⟨false, rfl, ⟨fun h => (by cases h), fun ⟨c, hc⟩ => absurd ((IFF.out c).1 hc).2.1 h1⟩, 0, rfl⟩
  · have h254 : (bits .and .u8 x 254 == 192) = false := by rw [and254 x hb0.1 hb0.2]; simp; omega
    go_enter Try.func32, Try.ntmps32
    go_wp2
    go_ret
    exact ⟨false, rfl, ⟨fun h => (by cases h), fun ⟨c, hc⟩ => absurd ((IFF.out c).1 hc).1 h0⟩, 0, rfl⟩

set_option maxHeartbeats 1000000 in
theorem ovAt_m (a : Option Addr) (n c i m : Nat) (zs : List Int) (w : World) (hl : zs.length = n) (hn : n ≤ 2097152) (hr : Rd w a zs) (hb : Byt zs) (h3 : 3 ≤ m) (h6 : m ≤ 6) (hi : i + m ≤ n) :
    Calls Try.prog 32 #[.slice a n c, .int .i64 (i : Int), .int .i64 (m : Int)] w fun e w' => ∃ r : Bool, e = .returned (.bool r) ∧ Hid (r = true ↔ ∃ c, OvAt zs i m c) ∧ ∃ q, w' = w.drewN q := by
  obtain ⟨b, off, rfl, hc0⟩ := hr i (by omega)
  have hb0 := hb.at i
  have IFF : Hid (∀ c, OvAt zs i m c ↔ _) := ovAt_more zs i m h3 h6 (by omega)
  have HL := lead_any m (by omega) h6
  have HLD : Hid (leadOf m = leadOf m) := rfl
  generalize leadOf m = ld at HL IFF
  obtain ⟨x, hx⟩ : ∃ x, x = zs.getD i 0 := ⟨_, rfl⟩
  rw [← hx] at hc0 hb0
  have HX : Hid (x = zs.getD i 0) := hx
  clear hx HLD
  have HL2 : Hid (∀ w, Calls Try.prog 25 #[.int .i64 (m : Int)] w fun e w' => e = .returned (.int .u8 ld) ∧ w' = w) := HL
  clear HL
  have g2 : ((m : Int) == 2) = false := by simp; omega
  have hi2 : (i : Int) < n := by omega
  by_cases h0 : x = ld
  · subst h0
    go_enter Try.func32, Try.ntmps32
    go_wp2_with fail
    go_quiet ((go_at_call 25; exact Calls.quiet_of_same (HL2.out _)))
    go_wp2_with fail
    go_loopg [7] m (fun g s7 wx => w.drewN nq = wx ∧ ∃ j : Nat, 1 ≤ j ∧ j + 2 ≤ m ∧ g + j = m + 1 ∧ s7 = .int .i64 j ∧ Hid (∀ k, 1 ≤ k → k < j → zs.getD (i + k) 0 = 128))
    case atStart => exact ⟨rfl, 1, by omega, by omega, by omega, rfl, fun k h1 h2 => by omega⟩
    case round =>
      obtain ⟨rfl, j, hj1, hj2, hgj, rfl, HM⟩ := hrel
      by_cases hlt : j + 3 ≤ m
      · obtain ⟨b', off', hab, hc1⟩ := hr (i + j) (by omega)
        simp only [Option.some.injEq, Addr.mk.injEq, and_true] at hab
        obtain ⟨rfl, rfl⟩ := hab
        obtain ⟨y, hy⟩ : ∃ y, y = zs.getD (i + j) 0 := ⟨_, rfl⟩
        rw [← hy] at hc1
        have HY : Hid (y = zs.getD (i + j) 0) := hy
        clear hy
        have hij : ((i : Int) + (j : Int)).toNat = i + j := by omega
        have hij2 : (i : Int) + (j : Int) < n := by omega
        by_cases hy : y = 128
        · subst hy
          go_wp2
          go_roundg (m - j)
          case measure => omega
          case rel =>
            refine ⟨rfl, j + 1, by omega, by omega, by omega, by go_num, fun k h1 h2 => ?_⟩
            by_cases hk : k = j
            · subst hk; exact HY.out.symm
            · exact HM.out k h1 (by omega)
        · have hne : (y != 128) = true := by simpa using hy
          go_wp2
          go_ret
          refine ⟨false, rfl, ⟨fun h => (by cases h), fun ⟨c, hc⟩ => ?_⟩, _, rfl⟩
          have := ((IFF.out c).1 hc).2.1 j hj1 hlt
          rw [← HY.out] at this
          exact absurd this hy
      · obtain ⟨b', off', hab, hc1⟩ := hr (i + m - 2) (by omega)
        simp only [Option.some.injEq, Addr.mk.injEq, and_true] at hab
        obtain ⟨rfl, rfl⟩ := hab
        obtain ⟨b', off', hab, hc2⟩ := hr (i + m - 1) (by omega)
        simp only [Option.some.injEq, Addr.mk.injEq, and_true] at hab
        obtain ⟨rfl, rfl⟩ := hab
        have hb1 := hb.at (i + m - 2)
        have hb2 := hb.at (i + m - 1)
        have MID : Hid (∀ j, 1 ≤ j → j + 3 ≤ m → zs.getD (i + j) 0 = 128) := fun k h1 h2 => HM.out k h1 (by omega)
        clear HM
        generalize zs.getD (i + m - 2) 0 = y at hc1 hb1 IFF
        generalize zs.getD (i + m - 1) 0 = z at hc2 hb2 IFF
        have e1 : ((i : Int) + (m : Int) - 2).toNat = i + m - 2 := by omega
        have e2 : ((i : Int) + (m : Int) - 1).toNat = i + m - 1 := by omega
        have e3 : (i : Int) + (m : Int) - 2 < n := by omega
        have e4 : (i : Int) + (m : Int) - 1 < n := by omega
        by_cases hy : y = 128 ∨ y = 129
        · have h254 : bits .and .u8 y 254 = 128 := by rw [and254 y hb1.1 hb1.2]; omega
          by_cases hz : 128 ≤ z ∧ z < 192
          · have h192 := and192_yes z hz.1 hz.2
            go_wp2
            go_ret
            exact ⟨true, rfl, ⟨fun _ => ⟨_, (IFF.out _).2 ⟨HX.out.symm, MID.out, hy, hz, rfl⟩⟩, fun _ => rfl⟩, _, rfl⟩
          · have h192 := and192_no z hb2.1 hb2.2 hz
            go_wp2
            go_ret
            exact ⟨false, rfl, ⟨fun h => (by cases h), fun ⟨c, hc⟩ => absurd ((IFF.out c).1 hc).2.2.2.1 hz⟩, _, rfl⟩
        · have h254 : (bits .and .u8 y 254 == 128) = false := by rw [and254 y hb1.1 hb1.2]; simp; omega
          go_wp2
          go_ret
          exact ⟨false, rfl, ⟨fun h => (by cases h), fun ⟨c, hc⟩ => absurd ((IFF.out c).1 hc).2.2.1 hy⟩, _, rfl⟩
  · have hne : (x != ld) = true := by simpa using h0
    go_enter Try.func32, Try.ntmps32
    go_wp2_with fail
    go_quiet ((go_at_call 25; exact Calls.quiet_of_same (HL2.out _)))
    go_wp2
    go_ret
    refine ⟨false, rfl, ⟨fun h => (by cases h), fun ⟨c, hc⟩ => ?_⟩, _, rfl⟩
    have := ((IFF.out c).1 hc).1
    rw [← HX.out] at this
    exact absurd this h0

end Go.Proofs.Qxb6601358a
