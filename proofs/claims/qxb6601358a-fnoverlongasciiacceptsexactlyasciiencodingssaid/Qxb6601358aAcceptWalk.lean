/-
  The walk of FnOverlongASCIIAcceptsExactlyASCIIEncodings (4).
-/
import Derived.Test.Qxb6601358aOvWalk
import Derived.Test.Qxb6601358aEncWalk
import Derived.Test.Qxb6601358aMem
namespace Go.Proofs.Qxb6601358a
open Go.ChangeShapes Go.WideShapes Go.ChangeAt Go.RowKit
open Ov
set_option linter.unusedVariables false

theorem enc_byt (c : Int) (m : Nat) (h0 : 0 ≤ c) (h1 : c ≤ 255) (hm1 : 2 ≤ m) (hm2 : m ≤ 6) : Byt (enc c m) := by
  intro z hz
  rcases five hm1 hm2 with rfl | rfl | rfl | rfl | rfl <;> simp [enc] at hz <;> omega

theorem below_drewN' {B : Nat} {a w : World} (h : Below B a w) (q : Nat) : Below B a (w.drewN q) := ⟨h.os, h.tape, h.output, h.size, h.block⟩

set_option maxHeartbeats 1000000 in
theorem accept_walk (a0 : Option Addr) (len0 cap0 : Nat) (z0 : List Int) (c : Int) (m : Nat) (w : World) (w0 : IsRow .u8 w a0 len0 cap0 z0) (hc0 : 0 ≤ c) (hc1 : c ≤ 255) (hm1 : 2 ≤ m) (hm2 : m ≤ 6) (hn : len0 ≤ 1048576) :
    Calls Try.prog 4 #[.slice a0 len0 cap0, .int .u8 c, .int .i64 (m : Int)] w fun e w' => e = .returned (.bool true) ∧ Below w.heap.size w w' := by
  obtain ⟨i0, hi, hz0, hz1, hz2⟩ := info_parts Try.info5
  go_enter Try.func4, Try.ntmps4
  go_wp2_with (go_at_call 14; go_in)
  refine (clone_any a0 len0 cap0 z0 _ w0 hn).mono ?_
  rintro e w1 ⟨a1, rfl, hr1, hnil, ha0, hlen, hby, hbel1, -⟩
  generalize z0.take len0 = ys at hr1 hlen hby
  have Hno : Hid (a1 = none → len0 = 0 ∧ len0 = 0) := fun h => ⟨ha0 (hnil.1 h), ha0 (hnil.1 h)⟩
  have Hlen : Hid (ys.length = len0) := hlen
  have hs1 := hbel1.size
  clear hnil ha0 hlen
  go_wp2_with fail
  refine (enc_any c m hc0 hc1 hm1 hm2 _).mono ?_
  rintro e w2 ⟨rfl, rfl⟩
  go_wp2_with (at_make; refine wpList_make_own _ rfl _ _ 22 rfl w.heap.size 5 i0 (.int .u8 0) 1 Try.underlying22 hi hz0 hz1 .i64 .i64 _ (len0 + m) rfl rfl ?c1 ?c2 ?c3 ?c4 ?_)
  case c1 => omega
  case c2 => rw [hz2]; omega
  case c3 => unfold maxLen; omega
  case c4 => simp; omega
  intro w3 hown3 hgrow3
  have hb3 : Below (w1.heap.size + 1) (w1.alloc (.cells (encCells c m) 5)) w3 := (Below.refl (w1.heap.size + 1) _).grown hgrow3 (by simp) (by intro k hk; cases hk)
  have hb31 : Below w1.heap.size w1 w3 := ((Below.refl _ _).alloc (Nat.le_refl _) _).trans (hb3.mono (by omega))
  have hr3 : Rd w3 a1 ys := hr1.mono hb31
  have he1 : Rd (w1.alloc (.cells (encCells c m) 5)) (some ⟨w1.heap.size, 0, none⟩) (enc c m) := Rd.alloc_new w1 (enc c m) 5
  have hel := enc_length c m hm1 hm2
  have Hel : Hid ((enc c m).length = m) := hel
  clear hel
  go_wp2_with (at_builtin; refine wpList_append_fits_any _ rfl (.tmp 35) (.tmp 36) 22 rfl w.heap.size 5 i0 1 Try.underlying22 hi hz1 (w1.heap.size + 1) 0 (len0 + m) [] rfl hown3 a1 len0 len0 (ys.map (Value.int .u8)) rfl ?c5 Hno.out hr3.cells (ints_oneCell _ _) ?c6 ?_)
  case c5 => rw [List.length_map, Hlen.out, Nat.mul_one]
  case c6 => omega
  intro w4 hown4 hgrow4
  have hb4 : Below (w1.heap.size + 1) (w1.alloc (.cells (encCells c m) 5)) w4 := hb3.grown hgrow4 (by have := hb3.size; simpa using this) (by intro k hk; simp at hk; omega)
  have he4 : Rd w4 (some ⟨w1.heap.size, 0, none⟩) (enc c m) := he1.mono (by simpa using hb4)
  have hsz4 : w.heap.size ≤ w4.heap.size := by have := hb4.size; simp at this; omega
  clear hgrow3 hgrow4 hown3 hr3 hr1 hb3 hb31
  go_wp2_with (at_builtin; refine wpList_append_fits_any _ rfl (.tmp 38) (.tmp 39) 22 rfl w.heap.size 5 i0 1 Try.underlying22 hi hz1 (w1.heap.size + 1) len0 (len0 + m) _ rfl hown4 (some ⟨w1.heap.size, 0, none⟩) m m ((enc c m).map (Value.int .u8)) rfl ?c7 ?c8 he4.cells (ints_oneCell _ _) ?c9 ?_)
  case c7 => rw [List.length_map, Hel.out, Nat.mul_one]
  case c8 => intro h; cases h
  case c9 => omega
  intro w5 hown5 hgrow5
  rw [← List.map_append] at hown5
  have hb5 : Below (w1.heap.size + 1) (w1.alloc (.cells (encCells c m) 5)) w5 := hb4.grown hgrow5 (by have := hb4.size; simpa using this) (by intro k hk; simp at hk; omega)
  have hbw : Below w.heap.size w w5 := (hbel1.alloc hs1 _).trans (hb5.mono (by omega))
  have hr5 := Rd.of_own (v := .bool true) hown5
  have hbz : Byt (ys ++ enc c m) := by
    intro z hz
    rcases List.mem_append.1 hz with h | h
    · exact hby z h
    · exact enc_byt c m hc0 hc1 hm1 hm2 z h
  have hlz : (ys ++ enc c m).length = len0 + m := by rw [List.length_append, Hlen.out, Hel.out]
  have HC : Hid (_) := fun W (hW : Rd W (some ⟨w1.heap.size + 1, 0, none⟩) (ys ++ enc c m)) => zzov_any (some ⟨w1.heap.size + 1, 0, none⟩) (len0 + m) (len0 + m) _ W hlz (by omega) (Nat.le_refl _) hW hbz
  clear hlz hgrow5 hown5 hown4 hb4 hb5 he4 he1
  go_wp2_with fail
  refine (HC.out _ hr5).mono ?_
  rintro e w6 ⟨r, k, rfl, HR, q, rfl⟩
  have HE := res_enc _ c r m k hc0 (by omega) hm1 hm2 HR.out
  by_cases hlt : c < 128
  · obtain ⟨rfl, rfl⟩ := HE.1 hlt
    clear HE HR HC
    go_wp2
    go_ret
    exact ⟨by first | rfl | simp, below_drewN' hbw _⟩
  · obtain ⟨rfl, rfl⟩ := HE.2 (by omega)
    clear HE HR HC
    go_wp2
    go_ret
    exact ⟨by first | rfl | simp, below_drewN' hbw _⟩

end Go.Proofs.Qxb6601358a
