/-
  The walks of allDistinct (21), rankBelow (27), ZZList (24).
-/
import Derived.Test.Qxb6601677aListMini
namespace Go.Proofs.Qxb6601677a
open Go.ChangeShapes Go.WideShapes Go.ChangeAt Go.RowKit
set_option linter.unusedVariables false

def Dist (ps : List Int) (m k : Nat) : Prop := ∀ i j, i < k → i < j → j < m → ps.getD i 0 ≠ ps.getD j 0
def Dist1 (ps : List Int) (i k : Nat) : Prop := ∀ j, i < j → j < k → ps.getD i 0 ≠ ps.getD j 0

set_option maxHeartbeats 2000000 in
set_option maxRecDepth 20000 in
theorem allDistinct_any (g m cap : Nat) (ps : List Int) (w : World) (hm : m ≤ 100000) (hmc : m ≤ cap) (hc : ∀ i, i < m → w.cell? ⟨g, i, none⟩ = some (.int .i64 (ps.getD i 0))) :
    Calls Try.prog 21 #[.slice (some ⟨g, 0, none⟩) m cap] w fun e w' => ∃ (b : Bool) (q : Nat), e = .returned (.bool b) ∧ (b = true → Dist ps m m) ∧ w' = w.drewN q := by
  have HC := hid hc
  clear hc
  go_enter Try.func21, Try.ntmps21
  go_wp2_with fail
  go_loopg [3] m (fun gg s3 wx => ∃ (k q : Nat), s3 = .int .i64 k ∧ k ≤ m ∧ gg = m - k ∧ Hid (Dist ps m k) ∧ wx = w.drewN q)
  case atStart => exact ⟨0, 0, rfl, by omega, rfl, fun i j h => by omega, rfl⟩
  case round =>
    obtain ⟨k, q, rfl, hk, rfl, HD, rfl⟩ := hrel
    by_cases hlt : k < m
    · have b1 : w.cell? ⟨g, k, none⟩ = some (.int .i64 (ps.getD k 0)) := HC.out k hlt
      go_wp2_with fail
      go_loopg [4] (m - (k + 1)) (fun gg s4 wx => ∃ (j q : Nat), s4 = .int .i64 j ∧ k < j ∧ j ≤ m ∧ gg = m - j ∧ Hid (Dist1 ps k j) ∧ wx = w.drewN q)
      case atStart => exact ⟨k + 1, q, by go_num, by omega, by omega, rfl, fun j h1 h2 => by omega, rfl⟩
      case round =>
        obtain ⟨j, q, rfl, hj0, hj, rfl, HD1, rfl⟩ := hrel
        by_cases hjl : j < m
        · have b2 : w.cell? ⟨g, j, none⟩ = some (.int .i64 (ps.getD j 0)) := HC.out j hjl
          generalize hx : ps.getD k 0 = x at b1
          generalize hy : ps.getD j 0 = y at b2
          have HX := hid hx
          have HY := hid hy
          clear hx hy
          by_cases hxy : x = y
          · subst hxy
            go_wp2_with fail
            go_quiet (fail)
            go_wp2
            go_ret
            exact ⟨_, q + nq, rfl, fun h => (Bool.noConfusion h), by rw [World.drewN_drewN]⟩
          · have hne : ¬ y = x := fun h => hxy h.symm
            go_wp2_with fail
            go_quiet (fail)
            go_wp2
            go_roundg (m - (j + 1))
            case measure => omega
            case rel =>
              refine ⟨j + 1, q + nq, by go_num, by omega, by omega, rfl, ?_, rfl⟩
              intro i h1 h2
              by_cases hij : i = j
              · subst hij; rw [HX.out, HY.out]; exact hxy
              · exact HD1.out i h1 (by omega)
        · obtain rfl : j = m := by omega
          go_wp2
          go_roundg (j - (k + 1))
          case measure => omega
          case rel =>
            refine ⟨k + 1, _, by go_num, by omega, rfl, ?_, rfl⟩
            intro i j' h1 h2 h3
            by_cases hik : i = k
            · subst hik; exact HD1.out j' h2 h3
            · exact HD.out i j' (by omega) h2 h3
    · obtain rfl : k = m := by omega
      go_wp2
      go_ret
      exact ⟨_, _, rfl, fun _ => HD.out, rfl⟩

set_option maxHeartbeats 2000000 in
set_option maxRecDepth 20000 in
theorem rank_any (g m cap : Nat) (ps : List Int) (x : Int) (w : World) (hm : m ≤ 100000) (hl : ps.length = m) (hmc : m ≤ cap) (hc : ∀ i, i < m → w.cell? ⟨g, i, none⟩ = some (.int .i64 (ps.getD i 0))) :
    Calls Try.prog 27 #[.slice (some ⟨g, 0, none⟩) m cap, .int .i64 x] w fun e w' => e = .returned (.int .i64 ((ps.countP (fun y => decide (y < x)) : Nat) : Int)) ∧ w' = w := by
  have HC := hid hc
  have HL := hid hl
  clear hc hl
  go_enter Try.func27, Try.ntmps27
  go_wp2_with fail
  go_loopg [5, 6] m (fun gg s5 s6 wx => ∃ (c k : Nat), s5 = .int .i64 c ∧ s6 = .int .i64 k ∧ c ≤ k ∧ k ≤ m ∧ gg = m - k ∧ Hid (c = (ps.take k).countP (fun y => decide (y < x))) ∧ wx = w)
  case atStart => exact ⟨0, 0, rfl, rfl, by omega, by omega, rfl, rfl, rfl⟩
  case round =>
    obtain ⟨c, k, rfl, rfl, hck, hk, rfl, HCP, rfl⟩ := hrel
    by_cases hlt : k < m
    · have b1 : wr.cell? ⟨g, k, none⟩ = some (.int .i64 (ps.getD k 0)) := HC.out k hlt
      have HS : Hid ((ps.take (k + 1)).countP (fun y => decide (y < x)) = c + if ps.getD k 0 < x then 1 else 0) := by
        show _ = _
        have hkl : k < ps.length := by rw [HL.out]; exact hlt
        rw [List.take_add_one, List.getElem?_eq_getElem hkl, Option.toList_some, List.countP_append, ← HCP.out]
        simp [List.countP_cons, hkl]
      generalize ps.getD k 0 = y at b1 HS
      by_cases hxy : y < x
      · go_wp2
        go_roundg (m - (k + 1))
        case measure => omega
        case rel => exact ⟨c + 1, k + 1, by go_num, by go_num, by omega, by omega, rfl, by show _ = _; rw [HS.out, if_pos hxy], rfl⟩
      · go_wp2
        go_roundg (m - (k + 1))
        case measure => omega
        case rel => exact ⟨c, k + 1, rfl, by go_num, by omega, by omega, rfl, by show _ = _; rw [HS.out, if_neg (by omega), Nat.add_zero], rfl⟩
    · obtain rfl : k = m := by omega
      go_wp2
      go_ret
      exact ⟨by rw [HCP.out, List.take_of_length_le (by rw [HL.out]; omega)]; rfl, rfl⟩

theorem zzList_any (S Bs n : Nat) (cs rs : List Int) (W : World) (hn : n ≤ 4096) (h : LPre W S Bs n cs rs) (hc : ∀ j, j < n → 0 ≤ cs.getD j 0) (hcm : ∀ j, j < n → cs.getD j 0 ≤ 9223372036854775807) (hrm : ∀ j, j < n → rs.getD j 0 ≤ 9223372036854775807) :
    Calls Try.prog 24 #[.slice (some ⟨S, 0, none⟩) n n] W (ListPost W Bs n cs rs) := by
  have C := hid (list_any S Bs n cs rs W hn h hc hcm hrm)
  clear hc hcm hrm h
  go_enter Try.func24, Try.ntmps24
  go_wp2_with (go_at_call 30; refine C.out.mono ?_; rintro e w' ⟨H, T, L, W2, rfl, hpost⟩)
  go_ret
  exact ⟨H, T, L, W2, rfl, hpost⟩

end Go.Proofs.Qxb6601677a
