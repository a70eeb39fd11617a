/-
  The proof of 'Rows.FnListOrdersByLineOpenEndsLastSaid': the walk by hand, the row's step by the guide's shell.
-/
import Derived.Test.Qxb6601677aRows
import Derived.WalkKit
import Derived.ProofKit
import Derived.OpenShut
import Derived.ShutString
import Derived.ChangeOld
import Derived.Below
import Derived.Test.Qxb6601677aListFn
namespace Go.Proofs.Qxb6601677a.fnListOrdersByLineOpenEndsLast
open Go.ChangeShapes Go.WideShapes Go.ChangeAt Go.RowKit
open Go.ChangeMaps (open_string shut_string)
set_option linter.unusedVariables false

theorem own : ownKnob Try.prog.godebug = none := by kernel_rfl
theorem laidOut : laidOutB Try.prog = true := by kernel_rfl

theorem lenCap {w : World} {a : Option Addr} {len cap : Nat} {zs : List Int} (h : IsRow .i64 w a len cap zs) : len ≤ cap := by
  rcases h with ⟨_, h, h', _⟩ | ⟨x, _, h, _⟩
  · omega
  · exact h

set_option maxHeartbeats 2000000 in
set_option maxRecDepth 20000 in
theorem walk (a0 : Option Addr) (len0 cap0 : Nat) (z0 : List Int) (a1 : Option Addr) (len1 cap1 : Nat) (z1 : List Int) (w : World) (w0 : IsRow .i64 w a0 len0 cap0 z0) (w1 : IsRow .i64 w a1 len1 cap1 z1) :
    Calls Try.prog 6 #[.slice a0 len0 cap0, .slice a1 len1 cap1] w fun e w' => e = .returned (.bool true) ∧ Below w.heap.size w w' := by
  by_cases h : len0 ≤ 4096 ∧ len0 = len1
  · obtain ⟨h1, rfl⟩ := h
    exact law6_main len0 cap0 cap1 a0 a1 z0 z1 w w0 w1 h1
  · have C19 := hid (zzBytes_list a0 a1 len0 cap0 len1 cap1 (lenCap w0) (lenCap w1) w)
    clear w0 w1
    by_cases h1 : len0 ≤ 4096
    · by_cases h2 : len1 ≤ 4096
      · have h3 : ¬ len0 = len1 := fun e => h ⟨h1, e⟩
        have h4 : ¬ (len0 : Int) = (len1 : Int) := by omega
        clear h
        go_enter Try.func6, Try.ntmps6
        go_wp2_with (go_at_call 19; refine C19.out.mono ?_; rintro e w' ⟨⟨r, rfl, hr⟩, hw⟩; obtain rfl := hw.symm; clear hw)
        all_goals first | (exfalso; omega) | (go_ret; exact ⟨rfl, Below.refl _ _⟩)
      · clear h
        go_enter Try.func6, Try.ntmps6
        go_wp2_with (go_at_call 19; refine C19.out.mono ?_; rintro e w' ⟨⟨r, rfl, hr⟩, hw⟩; obtain rfl := hw.symm; clear hw)
        all_goals first | (exfalso; omega) | (go_ret; exact ⟨rfl, Below.refl _ _⟩)
    · clear h
      go_enter Try.func6, Try.ntmps6
      go_wp2_with (go_at_call 19; refine C19.out.mono ?_; rintro e w' ⟨⟨r, rfl, hr⟩, hw⟩; obtain rfl := hw.symm; clear hw)
      all_goals first | (exfalso; omega) | (go_ret; exact ⟨rfl, Below.refl _ _⟩)

/-! ### THE ROW's STEP: WRITTEN OUT: LEAVE IT -/
set_option maxRecDepth 100000 in
theorem lifted (os : Os) (started : os.Started) (H : Type) (enc : TypeId × Value → H) :
    ReturnsInHanded {} Try.checked os 6 .any (Rows.fnListOrdersByLineOpenEndsLastSpec.pre6 enc Try.prog Try.f6 Rows.fnListOrdersByLineOpenEndsLastRow.domain false) (Rows.fnListOrdersByLineOpenEndsLastSpec.post enc Try.prog Try.f6 false true false false) := by
  refine returnsInHanded_of_change (C := Try.checked) own started (by kernel_rfl) Try.func6
    (ChangeSpec.witness6 (enc := enc) (C := Try.checked) false ⟨#[], #[.slice none 0 0, .slice none 0 0], []⟩ 8 (by kernel_rfl) (by kernel_rfl) (by kernel_rfl) (by kernel_rfl)) ?_
  intro W base args ds gs before hval0 hW hcnd _
  have hval : ∀ (j : Nat) t v, Try.f6.params[j]? = some t → args[j]? = some v → Value.okWide Try.prog W .any base t v := hval0
  have hW' := hW
  obtain ⟨p, q, hA0, hV, rfl, hfz, hnd⟩ := hW
  have hA : DataW.TrodAll enc Try.prog W 0 (fun _ => true) true Try.f6.params.toList args.toList ds p := hA0
  rw [Try.params6] at hA hval
  obtain ⟨v0, vs0, d0, ds0, p0, q0, hargs, rfl, rfl, h0, r0⟩ := trodAll_cons hA
  obtain ⟨v1, vs1, d1, ds1, p1, q1, rfl, rfl, rfl, h1, r1⟩ := trodAll_cons r0
  obtain ⟨rfl, rfl, rfl⟩ := trodAll_nil r1
  obtain rfl : args = #[v0, v1] := by cases args; simp_all
  obtain ⟨rfl, rfl⟩ := trodVars_none hV
  obtain ⟨a0, len0, cap0, rfl⟩ := okWide_slice Try.underlying35 (hval 0 35 v0 rfl rfl)
  have k0 := h0
  have lt0 : ∀ x ∈ p0, x.block < W.heap.size := by obtain ⟨m, hm⟩ := k0; exact DataW.trod_lt m _ _ _ hm
  obtain ⟨z0, w0⟩ : ∃ zs, IsRow .i64 W a0 len0 cap0 zs := by
    obtain ⟨fuel, hf⟩ := h0
    rcases open_ints Try.underlying35 Try.underlying3 (by kernel_rfl) hf with ⟨hcs, _⟩ | ⟨x, l, c, zs, hcs, _, hl, hm, hz, _, hcell, hwz⟩
    · simp [Value.cells] at hcs
      obtain ⟨rfl, rfl, rfl⟩ := hcs
      exact ⟨[], .inl ⟨rfl, rfl, rfl, rfl⟩⟩
    · simp [Value.cells] at hcs
      obtain ⟨rfl, rfl, rfl⟩ := hcs
      exact ⟨zs, .inr ⟨_, rfl, hl, hm, by simpa using hz, hcell, hwz⟩⟩
  obtain ⟨a1, len1, cap1, rfl⟩ := okWide_slice Try.underlying35 (hval 1 35 v1 rfl rfl)
  have k1 := h1
  have lt1 : ∀ x ∈ p1, x.block < W.heap.size := by obtain ⟨m, hm⟩ := k1; exact DataW.trod_lt m _ _ _ hm
  obtain ⟨z1, w1⟩ : ∃ zs, IsRow .i64 W a1 len1 cap1 zs := by
    obtain ⟨fuel, hf⟩ := h1
    rcases open_ints Try.underlying35 Try.underlying3 (by kernel_rfl) hf with ⟨hcs, _⟩ | ⟨x, l, c, zs, hcs, _, hl, hm, hz, _, hcell, hwz⟩
    · simp [Value.cells] at hcs
      obtain ⟨rfl, rfl, rfl⟩ := hcs
      exact ⟨[], .inl ⟨rfl, rfl, rfl, rfl⟩⟩
    · simp [Value.cells] at hcs
      obtain ⟨rfl, rfl, rfl⟩ := hcs
      exact ⟨zs, .inr ⟨_, rfl, hl, hm, by simpa using hz, hcell, hwz⟩⟩
  clear hA0 hval0
  refine (walk a0 len0 cap0 z0 a1 len1 cap1 z1 W w0 w1).mono fun e W' ⟨he, bel⟩ => ?_
  subst he
  exact ⟨_, rfl, _, _, _, [], _, [], hW', trodAll_mk1 (shut_bool Try.underlying4 _), (trodAll_cons_mk (Below.trod laidOut (by kernel_rfl) (of_decide_eq_true (by kernel_rfl)) k0 bel lt0) (trodAll_cons_mk (Below.trod laidOut (by kernel_rfl) (of_decide_eq_true (by kernel_rfl)) k1 bel lt1) trodAll_mk0)), rfl, bel.frame _, fun h => by cases h⟩

theorem over : Rows.fnListOrdersByLineOpenEndsLastRow.holds Try.pinned (OpenSpec.ofChange Rows.fnListOrdersByLineOpenEndsLastSpec) :=
  OpenClaim.holds_of_wide 6 Try.f6 rfl rfl rfl rfl rfl rfl rfl ⟨rfl, rfl, rfl, rfl, rfl⟩ rfl rfl rfl rfl rfl (by kernel_rfl) Try.func6 (by kernel_rfl)
    (of_decide_eq_true (by kernel_rfl)) (by unfold Func.isWrapper; first | (rw [if_pos (by decide +kernel)]; kernel_rfl) | (rw [if_neg (by decide +kernel)]; exact ⟨rfl, rfl⟩))
    (fun os started H enc _ => lifted os started H enc)

/-- ████ THE STATEMENT ████ -/
theorem proved : Rows.FnListOrdersByLineOpenEndsLastSaid := over
#print axioms proved
end Go.Proofs.Qxb6601677a.fnListOrdersByLineOpenEndsLast
