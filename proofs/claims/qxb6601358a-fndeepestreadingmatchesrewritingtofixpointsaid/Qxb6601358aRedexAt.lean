/-
  The walk of zzRedexAtRB1 (28).
-/
import Derived.Test.Qxb6601358aRedexWalk
namespace Go.Proofs.Qxb6601358a
open Go.ChangeShapes Go.WideShapes Go.ChangeAt Go.RowKit
open Ov Deep
set_option linter.unusedVariables false

theorem ovAt_any (a : Option Addr) (n c i m : Nat) (zs : List Int) (w : World) (hl : zs.length = n) (hn : n ≤ 2097152) (hr : Rd w a zs) (hb : Byt zs) (h2 : 2 ≤ m) (h6 : m ≤ 6) (hi : i + m ≤ n) :
    Calls Try.prog 32 #[.slice a n c, .int .i64 (i : Int), .int .i64 (m : Int)] w fun e w' => ∃ r : Bool, e = .returned (.bool r) ∧ Hid (r = true ↔ ∃ c, OvAt zs i m c) ∧ ∃ q, w' = w.drewN q := by
  by_cases h : m = 2
  · subst h
    exact ovAt_2 a n c i zs w hl hn hr hb hi
  · exact ovAt_m a n c i m zs w hl hn hr hb (by omega) h6 hi

/-- The byte that a long encoding at i stands for, off its last two bytes. -/
theorem ovAt_val {zs : List Int} {i m : Nat} {c : Int} (h2 : 2 ≤ m) (h6 : m ≤ 6) (hl : i + m ≤ zs.length) (h : OvAt zs i m c) :
    c = zs.getD (i + m - 2) 0 % 2 * 64 + zs.getD (i + m - 1) 0 % 64 := by
  by_cases e : m = 2
  · subst e
    exact ((ovAt_two zs i hl c).1 h).2.2
  · exact ((ovAt_more zs i m (by omega) h6 hl c).1 h).2.2.2.2

set_option maxHeartbeats 1000000 in
theorem redexAt_any (a : Option Addr) (n c i : Nat) (zs : List Int) (w : World) (hl : zs.length = n) (hn : n ≤ 2097152) (hr : Rd w a zs) (hb : Byt zs) (hi : i < n) :
    Calls Try.prog 28 #[.slice a n c, .int .i64 (i : Int)] w fun e w' => ∃ (r : Int) (m : Nat), e = .returned (.tuple #[.int .u8 r, .int .i64 m]) ∧ Hid (ResAt zs i r m) ∧ ∃ q, w' = w.drewN q := by
  obtain ⟨b, off, rfl, hc0⟩ := hr i (by omega)
  have hb0 := hb.at i
  obtain ⟨x, hx⟩ : ∃ x, x = zs.getD i 0 := ⟨_, rfl⟩
  rw [← hx] at hc0 hb0
  have HX : Hid (x = zs.getD i 0) := hx
  clear hx
  have hi2 : (i : Int) < n := by omega
  by_cases h37 : x = 37
  · have HN : Hid (¬ (i + 2 < zs.length ∧ Hex (zs.getD (i + 1) 0) ∧ Hex (zs.getD (i + 2) 0)) → ResAt zs i 0 0) := fun h => .inr ⟨rfl, rfl, noAt_of zs i (by omega) (fun _ => h) (fun h' => absurd (HX.out.symm.trans h37) h')⟩
    subst h37
    by_cases hi3 : i + 2 < n
    · obtain ⟨b', off', hab, hc1⟩ := hr (i + 1) (by omega)
      simp only [Option.some.injEq, Addr.mk.injEq, and_true] at hab
      obtain ⟨rfl, rfl⟩ := hab
      obtain ⟨b', off', hab, hc2⟩ := hr (i + 2) (by omega)
      simp only [Option.some.injEq, Addr.mk.injEq, and_true] at hab
      obtain ⟨rfl, rfl⟩ := hab
      have HY : Hid (Hex (zs.getD (i + 1) 0) → Hex (zs.getD (i + 2) 0) → ResAt zs i (hv (zs.getD (i + 1) 0) * 16 + hv (zs.getD (i + 2) 0)) 3) := fun h1 h2 => res_pct zs i (by omega) HX.out.symm h1 h2
      have hb1 := hb.at (i + 1)
      have hb2 := hb.at (i + 2)
      generalize zs.getD (i + 1) 0 = y at *
      generalize zs.getD (i + 2) 0 = z at *
      have e1 : ((i : Int) + 1).toNat = i + 1 := by omega
      have e2 : ((i : Int) + 2).toNat = i + 2 := by omega
      have e3 : (i : Int) + 1 < n := by omega
      have e4 : (i : Int) + 2 < n := by omega
      by_cases hy : Hex y
      · have HVY := hexVal_yes y
        have hvy := hv_lt y hy
        by_cases hz : Hex z
        · have hvz := hv_lt z hz
          have hR := HY.out hy hz
          have HR : Hid (ResAt zs i (hv y * 16 + hv z) 3) := hR
          clear hR HY HN HVY
          generalize hvv : hv y = u at *
          generalize hvv2 : hv z = v at *
          have C1 : Hid (∀ w, Calls Try.prog 31 #[.int .u8 y] w fun e w' => e = .returned (.tuple #[.int .u8 u, .bool true]) ∧ w' = w) := fun w => by rw [← hvv]; exact hexVal_yes y w hy
          have C2 : Hid (∀ w, Calls Try.prog 31 #[.int .u8 z] w fun e w' => e = .returned (.tuple #[.int .u8 v, .bool true]) ∧ w' = w) := fun w => by rw [← hvv2]; exact hexVal_yes z w hz
          clear hvv hvv2 hy hz
          go_enter Try.func28, Try.ntmps28
          go_wp2_with fail
          refine (C1.out _).mono ?_
          rintro e w' ⟨rfl, rfl⟩
          go_wp2_with fail
          refine (C2.out _).mono ?_
          rintro e w' ⟨rfl, rfl⟩
          go_wp2
          go_ret2
          exact ⟨_, 3, rfl, HR, 0, rfl⟩
        · have HR : Hid (ResAt zs i 0 0) := HN.out (fun h => hz h.2.2)
          clear HY HN HVY
          generalize hvv : hv y = u at *
          have C1 : Hid (∀ w, Calls Try.prog 31 #[.int .u8 y] w fun e w' => e = .returned (.tuple #[.int .u8 u, .bool true]) ∧ w' = w) := fun w => by rw [← hvv]; exact hexVal_yes y w hy
          have C2 : Hid (∀ w, Calls Try.prog 31 #[.int .u8 z] w fun e w' => e = .returned (.tuple #[.int .u8 0, .bool false]) ∧ w' = w) := fun w => hexVal_no z w hz
          clear hvv hy hz
          go_enter Try.func28, Try.ntmps28
          go_wp2_with fail
          refine (C1.out _).mono ?_
          rintro e w' ⟨rfl, rfl⟩
          go_wp2_with fail
          refine (C2.out _).mono ?_
          rintro e w' ⟨rfl, rfl⟩
          go_wp2
          go_ret2
          exact ⟨0, 0, rfl, HR, 0, rfl⟩
      · have HR : Hid (ResAt zs i 0 0) := HN.out (fun h => hy h.2.1)
        have C1 : Hid (∀ w, Calls Try.prog 31 #[.int .u8 y] w fun e w' => e = .returned (.tuple #[.int .u8 0, .bool false]) ∧ w' = w) := fun w => hexVal_no y w hy
        have C2 : ∃ (v : Int) (o : Bool), Hid (∀ w, Calls Try.prog 31 #[.int .u8 z] w fun e w' => e = .returned (.tuple #[.int .u8 v, .bool o]) ∧ w' = w) := by
          by_cases hz : Hex z
          · exact ⟨_, _, fun w => hexVal_yes z w hz⟩
          · exact ⟨_, _, fun w => hexVal_no z w hz⟩
        obtain ⟨v, o, C2⟩ := C2
        clear HY HN hy
        go_enter Try.func28, Try.ntmps28
        go_wp2_with fail
        refine (C1.out _).mono ?_
        rintro e w' ⟨rfl, rfl⟩
        go_wp2_with fail
        refine (C2.out _).mono ?_
        rintro e w' ⟨rfl, rfl⟩
        go_wp2
        go_ret2
        exact ⟨0, 0, rfl, HR, 0, rfl⟩
    · go_enter Try.func28, Try.ntmps28
      go_wp2
      go_ret2
      exact ⟨0, 0, rfl, HN.out (by omega), 0, rfl⟩
  · have hne : (x == 37) = false := by simpa using h37
    have HN : Hid ((∀ n c, 2 ≤ n → n ≤ 6 → i + n ≤ zs.length → ¬ OvAt zs i n c) → ResAt zs i 0 0) := fun h => .inr ⟨rfl, rfl, noAt_of zs i (by omega) (fun h' => absurd (HX.out.trans h') h37) (fun _ => h)⟩
    go_enter Try.func28, Try.ntmps28
    go_wp2_with fail
    go_loopg [10] 7 (fun g s10 wx => ∃ (m q : Nat), w.drewN q = wx ∧ 2 ≤ m ∧ m ≤ 7 ∧ g + m = 9 ∧ s10 = .int .i64 m ∧ Hid (∀ n c, 2 ≤ n → n < m → ¬ OvAt zs i n c))
    case atStart => exact ⟨2, 0, rfl, by omega, by omega, by omega, rfl, fun n c h1 h2 => by omega⟩
    case round =>
      obtain ⟨m, q, rfl, hm2, hm7, hgm, rfl, HM⟩ := hrel
      by_cases h6 : m ≤ 6
      · by_cases him : n < i + m
        · go_wp2
          go_ret2
          exact ⟨0, 0, rfl, HN.out (fun k c h1 h2 h3 => HM.out k c h1 (by omega)), _, rfl⟩
        · have C1 : Hid (∀ w', Rd w' (some ⟨b, off, none⟩) zs → Calls Try.prog 32 #[.slice (some ⟨b, off, none⟩) n c, .int .i64 (i : Int), .int .i64 (m : Int)] w' fun e w'' => ∃ r : Bool, e = .returned (.bool r) ∧ Hid (r = true ↔ ∃ c, OvAt zs i m c) ∧ ∃ q, w'' = w'.drewN q) := fun w' hr' => ovAt_any _ n c i m zs w' hl hn hr' hb hm2 h6 (by omega)
          go_wp2_with fail
          refine (C1.out (w.drewN q) hr).mono ?_
          rintro e w2 ⟨r, rfl, HO, q2, rfl⟩
          cases r with
          | false =>
            have HO2 : Hid (∀ c, ¬ OvAt zs i m c) := fun c h => by have := HO.out.2 ⟨c, h⟩; cases this
            clear HO C1
            go_wp2
            go_roundg (9 - (m + 1))
            case measure => omega
            case rel =>
              refine ⟨m + 1, _, rfl, by omega, by omega, by omega, by go_num, fun k c h1 h2 => ?_⟩
              by_cases hk : k = m
              · subst hk; exact HO2.out c
              · exact HM.out k c h1 (by omega)
          | true =>
            obtain ⟨cc, hcc⟩ := HO.out.1 rfl
            have hval := ovAt_val hm2 h6 (by omega) hcc
            have HR : Hid (ResAt zs i cc m) := res_ov zs i m cc hm2 h6 (by omega) hcc
            clear HO C1 hcc
            obtain ⟨b', off', hab, hc1⟩ := hr (i + m - 2) (by omega)
            simp only [Option.some.injEq, Addr.mk.injEq, and_true] at hab
            obtain ⟨rfl, rfl⟩ := hab
            obtain ⟨b', off', hab, hc2⟩ := hr (i + m - 1) (by omega)
            simp only [Option.some.injEq, Addr.mk.injEq, and_true] at hab
            obtain ⟨rfl, rfl⟩ := hab
            have hb1 := hb.at (i + m - 2)
            have hb2 := hb.at (i + m - 1)
            generalize zs.getD (i + m - 2) 0 = y at hc1 hb1 hval
            generalize zs.getD (i + m - 1) 0 = z at hc2 hb2 hval
            have HV : Hid (cc = y % 2 * 64 + z % 64) := hval
            clear hval
            have e1 : ((i : Int) + (m : Int) - 2).toNat = i + m - 2 := by omega
            have e2 : ((i : Int) + (m : Int) - 1).toNat = i + m - 1 := by omega
            have e3 : (i : Int) + (m : Int) - 2 < n := by omega
            have e4 : (i : Int) + (m : Int) - 1 < n := by omega
            have e5 : 0 ≤ (i : Int) + (m : Int) - 2 := by omega
            have e6 : 0 ≤ (i : Int) + (m : Int) - 1 := by omega
            have h1 := and1 y hb1.1 hb1.2
            have ho := or_u8 (y % 2) (z % 64) (by omega) (by omega) (by omega) (by omega)
            go_wp2_with fail
            go_quiet (fail)
            go_wp2
            go_ret2
            refine ⟨cc, m, ret_pair ?_, HR, _, World.drewN_drewN w _ _⟩
            exact HV.out.symm
      · go_wp2
        go_ret2
        exact ⟨0, 0, rfl, HN.out (fun k c h1 h2 h3 => HM.out k c h1 (by omega)), _, rfl⟩

end Go.Proofs.Qxb6601358a
