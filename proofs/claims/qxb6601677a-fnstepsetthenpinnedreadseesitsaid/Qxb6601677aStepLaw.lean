/-
  The walk of FnStepSetThenPinnedReadSeesIt (3).
-/
import Derived.Test.Qxb6601677aStep
namespace Go.Proofs.Qxb6601677a
open Go.ChangeShapes Go.WideShapes Go.ChangeAt Go.RowKit
set_option linter.unusedVariables false

theorem hid {p : Prop} (h : p) : Hid p := h

/-- An operation that sets. -/
theorem step_set (E P : Nat) (op result : ByteArray) (ex gv : Int) (data : ByteArray) (at' : Int) (sd : ByteArray) (sv : Int) (w : World) (h : Ent w E P op result ex gv data at') (hE : E < w.heap.size) (hP : P < w.heap.size)
    (hpin : at' < 0 ∨ 0 ≤ at' ∧ sv = at') (hop : (op.toList == [114, 101, 97, 100]) = false) (hs : (op.toList == [119, 114, 105, 116, 101]) = true ∨ (result.toList == [102, 97, 105, 108]) = false) :
    ∃ b : Bool, Calls Try.prog 28 #[.pointer (some ⟨E, 0, none⟩), .agg #[.string sd, .int .i64 sv]] w fun e w' => e = .returned (.tuple #[.agg #[.string data, .int .i64 (wrap64 (sv + 1))], .bool b]) ∧ Below w.heap.size w w' := by
  cases hw : (op.toList == [119, 114, 105, 116, 101]) with
  | true => exact ⟨_, step_write E P op result ex gv data at' sd sv w h hE hP hpin hop hw⟩
  | false =>
    have hf : (result.toList == [102, 97, 105, 108]) = false := by rcases hs with h | h; rw [hw] at h; cases h; exact h
    cases ho : (result.toList == [111, 107]) with
    | true => exact ⟨_, step_ok E P op result ex gv data at' sd sv w h hE hP hpin hop hw hf ho⟩
    | false => exact ⟨_, step_info E P op result ex gv data at' sd sv w h hE hP hpin hop hw hf ho⟩

theorem zzstep_of (E : Nat) (sd : ByteArray) (sv : Int) (d : ByteArray) (v : Int) (b : Bool) (w : World)
    (hC : Calls Try.prog 28 #[.pointer (some ⟨E, 0, none⟩), .agg #[.string sd, .int .i64 sv]] w fun e w' => e = .returned (.tuple #[.agg #[.string d, .int .i64 v], .bool b]) ∧ Below w.heap.size w w') :
    Calls Try.prog 9 #[.pointer (some ⟨E, 0, none⟩), .string sd, .int .i64 sv] w fun e w' => e = .returned (.tuple #[.string d, .int .i64 v, .bool b]) ∧ Below w.heap.size w w' := by
  have HC := hid hC
  clear hC
  go_enter Try.func9, Try.ntmps9
  go_wp2_with fail
  refine HC.out.mono ?_
  rintro e w1 ⟨rfl, hb⟩
  have hs := hb.size
  go_wp2
  go_quiet (fail)
  go_wp2
  go_ret3
  exact ⟨rfl, bdN (hb.alloc hs _)⟩

theorem ent_new (w : World) (op result : ByteArray) (ex gv : Int) (data : ByteArray) (at' : Int) :
    Ent ((w.alloc (.cells #[.string op, .string ByteArray.empty, .string ByteArray.empty, .string ByteArray.empty, .string ByteArray.empty, .int .i64 ex, .string result, .string ByteArray.empty, .int .i64 gv, .int .i64 0, .int .i64 0] 52)).alloc (.cells #[.pointer (some ⟨w.heap.size, 0, none⟩), .pointer none, .pointer none, .pointer none, .string data, .int .u64 0, .int .u64 0, .int .i64 at', .int .i64 0, .int .i64 0] 57)) (w.heap.size + 1) w.heap.size op result ex gv data at' := by
  refine ⟨?_, ?_, ?_, ?_, ?_, ?_, ?_⟩ <;> simp


theorem wrap_next (x : Int) : wrap64 (x + 1) ≠ x := by unfold wrap64; omega

/-- newStep, the two new blocks and what lies in them under one name. -/
theorem newStep_ent (op result : ByteArray) (ex gv : Int) (data : ByteArray) (at' : Int) (w : World) :
    Calls Try.prog 8 #[.string op, .string result, .int .i64 ex, .int .i64 gv, .string data, .int .i64 at'] w fun e w' => e = .returned (.pointer (some ⟨w.heap.size + 1, 0, none⟩)) ∧
      Ent w' (w.heap.size + 1) w.heap.size op result ex gv data at' ∧ w'.heap.size = w.heap.size + 2 ∧ Below w.heap.size w w' := by
  refine (newStep_any op result ex gv data at' w).mono ?_
  rintro e w' ⟨rfl, rfl⟩
  exact ⟨rfl, ent_new w op result ex gv data at', by simp, ((Below.refl _ _).alloc (Nat.le_refl _) _).alloc (by simp) _⟩

abbrev readB : ByteArray := { data := #[114, 101, 97, 100] }
abbrev okB : ByteArray := { data := #[111, 107] }
theorem readB_is : (readB.toList == [114, 101, 97, 100]) = true := by kernel_rfl

set_option maxHeartbeats 2000000 in
set_option maxRecDepth 20000 in
theorem set_main (op result : ByteArray) (ex gv : Int) (data : ByteArray) (at' : Int) (sd : ByteArray) (sv : Int) (rd : ByteArray) (w : World)
    (l0 : op.size ≤ 131072) (l1 : result.size ≤ 131072) (l2 : data.size ≤ 131072) (l3 : sd.size ≤ 131072) (l4 : rd.size ≤ 131072)
    (hop : (op.toList == [114, 101, 97, 100]) = false) (hs : (op.toList == [119, 114, 105, 116, 101]) = true ∨ (result.toList == [102, 97, 105, 108]) = false)
    (hpin : at' < 0 ∨ 0 ≤ at' ∧ sv = at') :
    Calls Try.prog 3 #[.string op, .string result, .int .i64 ex, .int .i64 gv, .string data, .int .i64 at', .string sd, .int .i64 sv, .string rd] w fun e w' => e = .returned (.bool true) ∧ Below w.heap.size w w' := by
  have HSET := hid (fun (W : World) (hE : Ent W (w.heap.size + 1) w.heap.size op result ex gv data at') (hz : W.heap.size = w.heap.size + 2) => step_set (w.heap.size + 1) w.heap.size op result ex gv data at' sd sv W hE (by omega) (by omega) hpin hop hs)
  have HN1 := hid (newStep_ent op result ex gv data at' w)
  have HN2 := hid (fun (W : World) => newStep_ent readB okB 0 0 rd (wrap64 (sv + 1)) W)
  have HN3 := hid (fun (W : World) => newStep_ent readB okB 0 0 data sv W)
  have HRD := hid (fun (E P : Nat) (W : World) (hE : Ent W E P readB okB 0 0 rd (wrap64 (sv + 1))) (h1 : E < W.heap.size) (h2 : P < W.heap.size) => zzstep_of E data (wrap64 (sv + 1)) data (wrap64 (sv + 1)) _ W (step_read E P readB okB 0 0 rd (wrap64 (sv + 1)) data (wrap64 (sv + 1)) W hE h1 h2 (by by_cases h : wrap64 (sv + 1) < 0; exact .inl h; exact .inr ⟨by omega, rfl⟩) readB_is))
  have HST := hid (fun (E P : Nat) (W : World) (hE : Ent W E P readB okB 0 0 data sv) (h1 : E < W.heap.size) (h2 : P < W.heap.size) (h0 : 0 ≤ sv) => zzstep_of E data (wrap64 (sv + 1)) data (wrap64 (sv + 1)) _ W (step_stale E P readB okB 0 0 data sv data (wrap64 (sv + 1)) W hE h1 h2 h0 (wrap_next sv)))
  have HW : (op.toList == [119, 114, 105, 116, 101]) = true ∨ (op.toList == [119, 114, 105, 116, 101]) = false ∧ (result.toList == [102, 97, 105, 108]) = false := by
    cases hw : (op.toList == [119, 114, 105, 116, 101]) with
    | true => exact .inl rfl
    | false => rcases hs with h | h; rw [hw] at h; cases h; exact .inr ⟨rfl, h⟩
  clear hs
  rcases HW with hw | ⟨hw, hf⟩ <;> rcases hpin with hneg | ⟨hpos, rfl⟩
  all_goals
    go_enter Try.func3, Try.ntmps3
    go_wp2_with (go_at_call 7; go_in)
    refine HN1.out.mono ?_
    rintro e w1 ⟨rfl, hE1, hz1, hb1⟩
    obtain ⟨b, hset⟩ := HSET.out w1 hE1 hz1
    have HZ := hid (zzstep_of _ sd _ data _ b w1 hset)
    have Hz1 := hid hz1
    clear hset HSET hz1
    go_wp2_with fail
    refine HZ.out.mono ?_
    rintro e w2 ⟨rfl, hb2⟩
    clear HZ
    have hbw2 : Below w.heap.size w w2 := hb1.trans (hb2.mono hb1.size)
    clear hb1 hb2 hE1 HN1
    go_wp2_with fail
    refine (HN2.out w2).mono ?_
    rintro e w3 ⟨rfl, hE3, hz3, hb3⟩
    have HZ := hid (HRD.out _ _ w3 hE3 (by omega) (by omega))
    have hbw3 : Below w.heap.size w w3 := hbw2.trans (hb3.mono hbw2.size)
    clear HRD hE3 hz3 hb3 hbw2 HN2 Hz1
    go_wp2_with fail
    refine HZ.out.mono ?_
    rintro e w4 ⟨rfl, hb4⟩
    have hbw4 : Below w.heap.size w w4 := hbw3.trans (hb4.mono hbw3.size)
    clear HZ hb4 hbw3
    have heq : ((data.toList == rd.toList) = true ∧ (rd.toList == data.toList) = true) ∨ ((data.toList == rd.toList) = false ∧ (rd.toList == data.toList) = false) := by
      by_cases h : data.toList = rd.toList
      · left; simp [h]
      · right; exact ⟨beq_eq_false_iff_ne.2 h, beq_eq_false_iff_ne.2 (Ne.symm h)⟩
    rcases heq with ⟨q1, q2⟩ | ⟨q1, q2⟩
    all_goals
      by_cases hsv : 0 ≤ sv
      · go_wp2_with fail
        refine (HN3.out w4).mono ?_
        rintro e w5 ⟨rfl, hE5, hz5, hb5⟩
        have HZ := hid (HST.out _ _ w5 hE5 (by omega) (by omega) hsv)
        have hbw5 : Below w.heap.size w w5 := hbw4.trans (hb5.mono hbw4.size)
        clear HST hE5 hz5 hb5 hbw4 HN3
        go_wp2_with fail
        refine HZ.out.mono ?_
        rintro e w6 ⟨rfl, hb6⟩
        have hbw6 : Below w.heap.size w w6 := hbw5.trans (hb6.mono hbw5.size)
        clear HZ hb6 hbw5
        go_wp2
        go_ret
        exact ⟨rfl, hbw6⟩
      · first
          | (exfalso; omega)
          | (go_wp2
             go_ret
             exact ⟨rfl, hbw4⟩)

end Go.Proofs.Qxb6601677a
