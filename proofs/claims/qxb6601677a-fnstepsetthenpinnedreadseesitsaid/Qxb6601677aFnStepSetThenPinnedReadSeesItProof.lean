/-
  The proof of 'Rows.FnStepSetThenPinnedReadSeesItSaid': the walk by hand, the row's step by the guide's shell (its end by 'Below').
-/
import Derived.Test.Qxb6601677aRows
import Derived.WalkKit
import Derived.ProofKit
import Derived.OpenShut
import Derived.ShutString
import Derived.Below
import Derived.ChangeOld
import Derived.Test.Qxb6601677aStepLaw
namespace Go.Proofs.Qxb6601677a.fnStepSetThenPinnedReadSeesIt
open Go.ChangeShapes Go.WideShapes Go.ChangeAt Go.RowKit
open Go.ChangeMaps (open_string shut_string)
set_option linter.unusedVariables false      -- a walk need not use every 'w<i>' (that an integer argument fits its kind)

theorem own : ownKnob Try.prog.godebug = none := by kernel_rfl

/-! ### STEP 1: THE WALK: the Go text returns true. 'Grown w w'': the world has at most new blocks (Derived/RowKit3.lean). Part the cases AHEAD of 'go_enter' where a test parts the walk; take each callee by a contract of your own. -/
set_option maxHeartbeats 2000000 in
theorem walk (a0 : ByteArray) (a1 : ByteArray) (a2 : Int) (a3 : Int) (a4 : ByteArray) (a5 : Int) (a6 : ByteArray) (a7 : Int) (a8 : ByteArray) (w0 : a0.size ≤ maxLen) (w1 : a1.size ≤ maxLen) (w2 : (Lit.int .i64 a2).wf = true) (w3 : (Lit.int .i64 a3).wf = true) (w4 : a4.size ≤ maxLen) (w5 : (Lit.int .i64 a5).wf = true) (w6 : a6.size ≤ maxLen) (w7 : (Lit.int .i64 a7).wf = true) (w8 : a8.size ≤ maxLen) (w : World) :
    Calls Try.prog 3 #[.string a0, .string a1, .int .i64 a2, .int .i64 a3, .string a4, .int .i64 a5, .string a6, .int .i64 a7, .string a8] w fun e w' => e = .returned (.bool true) ∧ Below w.heap.size w w' := by
  unfold maxLen at w0 w1 w4 w6 w8
  by_cases l0 : a0.size ≤ 131072
  · by_cases l1 : a1.size ≤ 131072
    · by_cases l2 : a4.size ≤ 131072
      · by_cases l3 : a6.size ≤ 131072
        · by_cases l4 : a8.size ≤ 131072
          · cases hr : (a0.toList == [114, 101, 97, 100]) with
            | true =>
              go_enter Try.func3, Try.ntmps3
              go_wp2
              go_ret
              exact ⟨rfl, Below.refl _ _⟩
            | false =>
              by_cases hset : (a0.toList == [119, 114, 105, 116, 101]) = true ∨ (a1.toList == [102, 97, 105, 108]) = false
              · by_cases hpin : a5 < 0 ∨ 0 ≤ a5 ∧ a7 = a5
                · exact set_main a0 a1 a2 a3 a4 a5 a6 a7 a8 w l0 l1 l2 l3 l4 hr hset hpin
                · have h0 : 0 ≤ a5 := by omega
                  have hne : (a5 != a7) = true := by simp; omega
                  have HW : (a0.toList == [119, 114, 105, 116, 101]) = true ∨ (a0.toList == [119, 114, 105, 116, 101]) = false ∧ (a1.toList == [102, 97, 105, 108]) = false := by
                    cases hw : (a0.toList == [119, 114, 105, 116, 101]) with
                    | true => exact .inl rfl
                    | false => rcases hset with h | h; rw [hw] at h; cases h; exact .inr ⟨rfl, h⟩
                  clear hset hpin
                  rcases HW with hw | ⟨hw, hf⟩
                  all_goals
                    go_enter Try.func3, Try.ntmps3
                    go_wp2
                    go_ret
                    exact ⟨rfl, Below.refl _ _⟩
              · have hw : (a0.toList == [119, 114, 105, 116, 101]) = false := by
                  cases hw : (a0.toList == [119, 114, 105, 116, 101]) with
                  | true => exact absurd (.inl hw) hset
                  | false => rfl
                have hf : (a1.toList == [102, 97, 105, 108]) = true := by
                  cases hf : (a1.toList == [102, 97, 105, 108]) with
                  | true => rfl
                  | false => exact absurd (.inr hf) hset
                clear hset
                go_enter Try.func3, Try.ntmps3
                go_wp2
                go_ret
                exact ⟨rfl, Below.refl _ _⟩
          · go_enter Try.func3, Try.ntmps3
            go_wp2
            all_goals (go_ret; exact ⟨rfl, Below.refl _ _⟩)
        · go_enter Try.func3, Try.ntmps3
          go_wp2
          all_goals (go_ret; exact ⟨rfl, Below.refl _ _⟩)
      · go_enter Try.func3, Try.ntmps3
        go_wp2
        all_goals (go_ret; exact ⟨rfl, Below.refl _ _⟩)
    · go_enter Try.func3, Try.ntmps3
      go_wp2
      all_goals (go_ret; exact ⟨rfl, Below.refl _ _⟩)
  · go_enter Try.func3, Try.ntmps3
    go_wp2
    all_goals (go_ret; exact ⟨rfl, Below.refl _ _⟩)

/-! ### THE ROW's STEP: WRITTEN OUT: LEAVE IT -/
set_option maxRecDepth 100000 in
theorem lifted (os : Os) (started : os.Started) (H : Type) (enc : TypeId × Value → H) :
    ReturnsInHanded {} Try.checked os 3 .any (Rows.fnStepSetThenPinnedReadSeesItSpec.pre6 enc Try.prog Try.f3 Rows.fnStepSetThenPinnedReadSeesItRow.domain false) (Rows.fnStepSetThenPinnedReadSeesItSpec.post enc Try.prog Try.f3 false true false false) := by
  refine returnsInHanded_of_change (C := Try.checked) own started (by kernel_rfl) Try.func3
    (ChangeSpec.witness6 (enc := enc) (C := Try.checked) false ⟨#[], #[.string ByteArray.empty, .string ByteArray.empty, .int .i64 0, .int .i64 0, .string ByteArray.empty, .int .i64 0, .string ByteArray.empty, .int .i64 0, .string ByteArray.empty], []⟩ 8 (by kernel_rfl) (by kernel_rfl) (by kernel_rfl) (by kernel_rfl)) ?_
  intro W base args ds gs before hval0 hW hcnd _
  have hval : ∀ (j : Nat) t v, Try.f3.params[j]? = some t → args[j]? = some v → Value.okWide Try.prog W .any base t v := hval0
  have hW' := hW
  obtain ⟨p, q, hA0, hV, rfl, hfz, hnd⟩ := hW
  have hA : DataW.TrodAll enc Try.prog W 0 (fun _ => true) true Try.f3.params.toList args.toList ds p := hA0
  rw [Try.params3] at hA hval
  obtain ⟨v0, vs0, d0, ds0, p0, q0, hargs, rfl, rfl, h0, r0⟩ := trodAll_cons hA
  obtain ⟨v1, vs1, d1, ds1, p1, q1, rfl, rfl, rfl, h1, r1⟩ := trodAll_cons r0
  obtain ⟨v2, vs2, d2, ds2, p2, q2, rfl, rfl, rfl, h2, r2⟩ := trodAll_cons r1
  obtain ⟨v3, vs3, d3, ds3, p3, q3, rfl, rfl, rfl, h3, r3⟩ := trodAll_cons r2
  obtain ⟨v4, vs4, d4, ds4, p4, q4, rfl, rfl, rfl, h4, r4⟩ := trodAll_cons r3
  obtain ⟨v5, vs5, d5, ds5, p5, q5, rfl, rfl, rfl, h5, r5⟩ := trodAll_cons r4
  obtain ⟨v6, vs6, d6, ds6, p6, q6, rfl, rfl, rfl, h6, r6⟩ := trodAll_cons r5
  obtain ⟨v7, vs7, d7, ds7, p7, q7, rfl, rfl, rfl, h7, r7⟩ := trodAll_cons r6
  obtain ⟨v8, vs8, d8, ds8, p8, q8, rfl, rfl, rfl, h8, r8⟩ := trodAll_cons r7
  obtain ⟨rfl, rfl, rfl⟩ := trodAll_nil r8
  obtain rfl : args = #[v0, v1, v2, v3, v4, v5, v6, v7, v8] := by cases args; simp_all
  obtain ⟨rfl, rfl⟩ := trodVars_none hV
  obtain ⟨a0, rfl, rfl, rfl, w0⟩ := open_string Try.underlying9 (hval 0 9 v0 rfl rfl) h0
  obtain ⟨a1, rfl, rfl, rfl, w1⟩ := open_string Try.underlying9 (hval 1 9 v1 rfl rfl) h1
  obtain ⟨a2, rfl, rfl, rfl, w2⟩ := open_int Try.underlying2 (hval 2 2 v2 rfl rfl) h2
  obtain ⟨a3, rfl, rfl, rfl, w3⟩ := open_int Try.underlying2 (hval 3 2 v3 rfl rfl) h3
  obtain ⟨a4, rfl, rfl, rfl, w4⟩ := open_string Try.underlying9 (hval 4 9 v4 rfl rfl) h4
  obtain ⟨a5, rfl, rfl, rfl, w5⟩ := open_int Try.underlying2 (hval 5 2 v5 rfl rfl) h5
  obtain ⟨a6, rfl, rfl, rfl, w6⟩ := open_string Try.underlying9 (hval 6 9 v6 rfl rfl) h6
  obtain ⟨a7, rfl, rfl, rfl, w7⟩ := open_int Try.underlying2 (hval 7 2 v7 rfl rfl) h7
  obtain ⟨a8, rfl, rfl, rfl, w8⟩ := open_string Try.underlying9 (hval 8 9 v8 rfl rfl) h8
  clear hA0 hval0
  refine (walk a0 a1 a2 a3 a4 a5 a6 a7 a8 w0 w1 w2 w3 w4 w5 w6 w7 w8 W).mono fun e W' ⟨he, bel⟩ => ?_
  subst he
  exact ⟨_, rfl, _, _, _, [], _, [], hW', trodAll_mk1 (shut_bool Try.underlying4 _), (trodAll_cons_mk (shut_string Try.underlying9 w0) (trodAll_cons_mk (shut_string Try.underlying9 w1) (trodAll_cons_mk (shut_int Try.underlying2 w2) (trodAll_cons_mk (shut_int Try.underlying2 w3) (trodAll_cons_mk (shut_string Try.underlying9 w4) (trodAll_cons_mk (shut_int Try.underlying2 w5) (trodAll_cons_mk (shut_string Try.underlying9 w6) (trodAll_cons_mk (shut_int Try.underlying2 w7) (trodAll_cons_mk (shut_string Try.underlying9 w8) trodAll_mk0))))))))), rfl, bel.frame _, fun h => by cases h⟩

theorem over : Rows.fnStepSetThenPinnedReadSeesItRow.holds Try.pinned (OpenSpec.ofChange Rows.fnStepSetThenPinnedReadSeesItSpec) :=
  OpenClaim.holds_of_wide 3 Try.f3 rfl rfl rfl rfl rfl rfl rfl ⟨rfl, rfl, rfl, rfl, rfl⟩ rfl rfl rfl rfl rfl (by kernel_rfl) Try.func3 (by kernel_rfl)
    (of_decide_eq_true (by kernel_rfl)) (by unfold Func.isWrapper; first | (rw [if_pos (by decide +kernel)]; kernel_rfl) | (rw [if_neg (by decide +kernel)]; exact ⟨rfl, rfl⟩))
    (fun os started H enc _ => lifted os started H enc)

/-- ████ THE STATEMENT ████ -/
theorem proved : Rows.FnStepSetThenPinnedReadSeesItSaid :=
  over
#print axioms proved
end Go.Proofs.Qxb6601677a.fnStepSetThenPinnedReadSeesIt
