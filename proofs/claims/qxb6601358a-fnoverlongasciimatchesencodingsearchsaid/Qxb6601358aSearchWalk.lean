/-
  The walk of FnOverlongASCIIMatchesEncodingSearch (3).
-/
import Derived.Test.Qxb6601358aOvWalk
import Derived.Test.Qxb6601358aEncWalk
import Derived.Test.Qxb6601358aEndsWalk
namespace Go.Proofs.Qxb6601358a
open Go.ChangeShapes Go.WideShapes Go.ChangeAt Go.RowKit
open Ov
set_option linter.unusedVariables false

theorem endsW_enc (zs : List Int) (x n : Nat) (hx : x < 128) (h1 : 2 ≤ n) (h2 : n ≤ 6) : EndsW zs (enc x n) ↔ Ov.Ends zs x n :=
  ⟨fun h => ⟨by omega, by omega, h1, h2, h⟩, fun h => h.2.2.2.2⟩

theorem res_unique {zs : List Int} {r s : Int} {n m : Nat} (h : Res zs r n) (k : Res zs s m) : r = s ∧ n = m := by
  rcases h with ⟨h0, h1, h2, h3, p, h4⟩ | ⟨h0, h1, h2⟩
  · rcases k with ⟨k0, k1, k2, k3, q, k4⟩ | ⟨k0, k1, k2⟩
    · exact enc_only p q r s n m h0 (by omega) h2 h3 k0 (by omega) k2 k3 (h4 ▸ k4)
    · exact absurd ⟨h0, h1, h2, h3, p, h4⟩ (k2 r n)
  · rcases k with k | ⟨k0, k1, k2⟩
    · exact absurd k (h2 s m)
    · exact ⟨by omega, by omega⟩

theorem ends_short {zs : List Int} {c : Int} {n : Nat} (h : Ov.Ends zs c n) : n ≤ zs.length := by
  obtain ⟨_, _, h1, h2, p, rfl⟩ := h
  have := enc_length c n h1 h2
  simp; omega

set_option maxHeartbeats 1000000 in
set_option maxRecDepth 20000 in
theorem search_walk (a0 : Option Addr) (len0 cap0 : Nat) (z0 : List Int) (w : World) (w0 : IsRow .u8 w a0 len0 cap0 z0) (hn : len0 ≤ 1048576) :
    Calls Try.prog 3 #[.slice a0 len0 cap0] w fun e w' => e = .returned (.bool true) ∧ Below w.heap.size w w' := by
  go_enter Try.func3, Try.ntmps3
  go_wp2_with (go_at_call 9; go_in)
  refine (clone_any a0 len0 cap0 z0 _ w0 hn).mono ?_
  rintro e w1 ⟨a1, rfl, hr1, -, -, hlen, hby, hbel1, -⟩
  generalize z0.take len0 = zs at hr1 hlen hby
  have Hlen : Hid (zs.length = len0) := hlen
  have hs1 := hbel1.size
  clear hlen
  go_wp2_with fail
  refine (zzov_any a1 len0 len0 zs _ Hlen.out (by omega) (Nat.le_refl _) hr1 hby).mono ?_
  rintro e w2 ⟨r, k, rfl, HR, q, rfl⟩
  have hrW : Rd (w1.drewN q) a1 zs := hr1
  have hbW : Below w.heap.size w (w1.drewN q) := ⟨hbel1.os, hbel1.tape, hbel1.output, hbel1.size, hbel1.block⟩
  clear hr1 hbel1 hs1
  generalize w1.drewN q = W at hrW hbW ⊢
  clear q w1
  go_upto_block 0 with fail
  go_cut [5, 6] (fun s5 s6 wx => ∃ (c : Int) (m : Nat), s5 = .int .u8 c ∧ s6 = .int .i64 m ∧ Hid (Res zs c m) ∧ Below w.heap.size w wx)
  case rest =>
    obtain ⟨c, m, rfl, rfl, HR2, hbel⟩ := hcut
    obtain ⟨rfl, rfl⟩ := res_unique HR.out HR2.out
    clear HR HR2 hrW hbW
    go_wp2
    go_ret
    exact ⟨by first | rfl | simp, hbel⟩
  case first =>
    go_wp2_with fail
    go_loopg [5, 6, 7] 5 (fun g s5 s6 s7 wx => ∃ (c : Int) (m n : Nat), s5 = .int .u8 c ∧ s6 = .int .i64 m ∧ s7 = .int .i64 n ∧ 2 ≤ n ∧ n ≤ 7 ∧ g = 7 - n ∧ Below W.heap.size W wx ∧ Hid (Ov.Ends zs c m ∧ 0 < m ∨ c = 0 ∧ m = 0 ∧ ∀ c' n', n' < n → ¬ Ov.Ends zs c' n'))
    case atStart => exact ⟨0, 0, 2, rfl, rfl, rfl, by omega, by omega, rfl, Below.refl _ _, .inr ⟨rfl, rfl, fun c' n' h he => by have := he.2.2.1; omega⟩⟩
    case round =>
      obtain ⟨c, m, n, rfl, rfl, rfl, hn2, hn7, rfl, hbx, HE⟩ := hrel
      by_cases hm0 : 0 < m
      · have hme : Hid (Ov.Ends zs c m) := by rcases HE.out with h | h; exact h.1; omega
        have hmz : ((m : Int) == 0) = false := by simp; omega
        clear HE
        by_cases hn6 : n ≤ 6
        · go_wp2
          go_meet
          case rel => exact ⟨c, m, rfl, rfl, .inl hme.out, hbW.trans (hbx.mono hbW.size)⟩
        · go_wp2
          go_meet
          case rel => exact ⟨c, m, rfl, rfl, .inl hme.out, hbW.trans (hbx.mono hbW.size)⟩
      · have hnone : Hid (∀ c' n', n' < n → ¬ Ov.Ends zs c' n') := by rcases HE.out with h | h; omega; exact h.2.2
        have hc0 : c = 0 := by rcases HE.out with h | h; omega; exact h.1
        obtain rfl : m = 0 := by omega
        subst hc0
        clear HE hm0
        by_cases hn6 : n ≤ 6
        · by_cases hshort : len0 < n
          · go_wp2
            go_meet
            case rel => exact ⟨0, 0, rfl, rfl, .inr ⟨rfl, rfl, fun c' n' he => by
              have h1 := ends_short he
              rw [Hlen.out] at h1
              exact hnone.out c' n' (by omega) he⟩, hbW.trans (hbx.mono hbW.size)⟩
          · have NEXT : Hid (∀ (c : Int) (m : Nat), (Ov.Ends zs c m ∧ 0 < m ∨ c = 0 ∧ m = 0 ∧ ∀ c', ¬ Ov.Ends zs c' n) → (Ov.Ends zs c m ∧ 0 < m ∨ c = 0 ∧ m = 0 ∧ ∀ c' n', n' < n + 1 → ¬ Ov.Ends zs c' n')) := by
              intro c m h
              rcases h with h | ⟨h1, h2, h3⟩
              · exact .inl h
              · refine .inr ⟨h1, h2, fun c' n' hlt he => ?_⟩
                by_cases hnn : n' = n
                · subst hnn; exact h3 c' he
                · exact hnone.out c' n' (by omega) he
            go_wp2_with fail
            go_loopg [5, 6, 8] 128 (fun g s5 s6 s8 wx => ∃ (x : Nat), s5 = .int .u8 0 ∧ s6 = .int .i64 0 ∧ s8 = .int .i64 x ∧ x ≤ 128 ∧ g = 128 - x ∧ Below W.heap.size W wx ∧ Hid (∀ c' : Int, c' < x → ¬ Ov.Ends zs c' n))
            case atStart => exact ⟨0, rfl, rfl, rfl, by omega, rfl, hbx, fun c' hlt he => by have := he.1; omega⟩
            case round =>
              obtain ⟨x, rfl, rfl, rfl, hx, rfl, hbx2, HN⟩ := hrel
              by_cases hlt : x < 128
              · go_wp2_with fail
                refine (enc_any (x : Int) n (by omega) (by omega) hn2 hn6 _).mono ?_
                rintro e w3 ⟨rfl, rfl⟩
                have hbx3 : Below W.heap.size W (wr.alloc (.cells (encCells (x : Int) n) 5)) := hbx2.alloc hbx2.size _
                have hrx : Rd (wr.alloc (.cells (encCells (x : Int) n) 5)) a1 zs := hrW.mono hbx3
                have hex : Rd (wr.alloc (.cells (encCells (x : Int) n) 5)) (some ⟨wr.heap.size, 0, none⟩) (enc x n) := Rd.alloc_new wr (enc x n) 5
                go_wp2_with fail
                refine (ends_any a1 (some ⟨wr.heap.size, 0, none⟩) len0 len0 n n zs (enc x n) _ Hlen.out (enc_length x n hn2 hn6) (by omega) (by omega) hrx hex).mono ?_
                rintro e w4 ⟨b, rfl, HB, q, rfl⟩
                have hbx4 : Below W.heap.size W ((wr.alloc (.cells (encCells (x : Int) n) 5)).drewN q) := ⟨hbx3.os, hbx3.tape, hbx3.output, hbx3.size, hbx3.block⟩
                clear hrx hex hbx3
                have HB2 : Hid (b = true ↔ Ov.Ends zs x n) := HB.out.trans (endsW_enc zs x n hlt hn2 hn6)
                clear HB
                cases b with
                | true =>
                  have HB3 : Hid (Ov.Ends zs x n) := HB2.out.1 rfl
                  clear HB2
                  go_wp2
                  go_roundg (7 - (n + 1))
                  case measure => omega
                  case rel => exact ⟨x, n, n + 1, by go_num, rfl, by go_num, by omega, by omega, rfl, hbx4, .inl ⟨HB3.out, by omega⟩⟩
                | false =>
                  have HB3 : Hid (¬ Ov.Ends zs x n) := fun h => by have := HB2.out.2 h; cases this
                  clear HB2
                  go_wp2
                  go_roundg (128 - (x + 1))
                  case measure => omega
                  case rel =>
                    refine ⟨x + 1, rfl, rfl, by go_num, by omega, rfl, hbx4, fun c' hc he => ?_⟩
                    by_cases hcx : c' = x
                    · subst hcx; exact HB3.out he
                    · exact HN.out c' (by omega) he
              · go_wp2
                go_roundg (7 - (n + 1))
                case measure => omega
                case rel => exact ⟨0, 0, n + 1, rfl, rfl, by go_num, by omega, by omega, rfl, hbx2, NEXT.out 0 0 (.inr ⟨rfl, rfl, fun c' he => HN.out c' (by have := he.2.1; omega) he⟩)⟩
        · go_wp2
          go_meet
          case rel => exact ⟨0, 0, rfl, rfl, .inr ⟨rfl, rfl, fun c' n' he => hnone.out c' n' (by have := he.2.2.2.1; omega) he⟩, hbW.trans (hbx.mono hbW.size)⟩

end Go.Proofs.Qxb6601358a
