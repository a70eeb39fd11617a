/-
  The proof of 'Rows.FnNewNeedsIsCountOfVersionsSaid': the walk by hand, the row's step after the guide's shell.
-/
import Derived.Test.Qxb6601677aRows
import Derived.WalkKit
import Derived.ProofKit
import Derived.OpenShut
import Derived.ShutString
import Derived.ChangeOld
import Derived.Below
import Derived.SliceStrings
import Derived.Test.Qxb6601677aNeedsFn4
namespace Go.Proofs.Qxb6601677a.fnNewNeedsIsCountOfVersions
open Go.ChangeShapes Go.WideShapes Go.ChangeAt Go.RowKit
open Go.ChangeMaps (open_string shut_string)
set_option linter.unusedVariables false

theorem own : ownKnob Try.prog.godebug = none := by kernel_rfl
theorem laidOut : laidOutB Try.prog = true := by kernel_rfl

set_option maxHeartbeats 2000000 in
set_option maxRecDepth 20000 in
theorem walk (a0 : Option Addr) (len0 cap0 : Nat) (z0 : List Int) (a1 : Option Addr) (len1 cap1 : Nat) (s1 : List ByteArray) (a2 : Option Addr) (len2 cap2 : Nat) (s2 : List ByteArray) (w : World) (w0 : RowI w a0 len0 cap0 z0) (w1 : RowS w a1 len1 cap1 s1) (w2 : RowS w a2 len2 cap2 s2) :
    Calls Try.prog 4 #[.slice a0 len0 cap0, .slice a1 len1 cap1, .slice a2 len2 cap2] w fun e w' => e = .returned (.bool true) ∧ Below w.heap.size w w' := by
  by_cases h : len0 ≤ 4096 ∧ len0 = len1 ∧ len0 = len2
  · obtain ⟨h1, rfl, rfl⟩ := h
    exact law4_main len0 cap0 cap1 cap2 a0 a1 a2 z0 s1 s2 w w0 w1 w2 h1
  · have C10 := hid (zzBytes_10 a0 a1 a2 len0 cap0 len1 cap1 len2 cap2 s1 s2 w w0.lenCap w1 w2)
    have C11 := hid (fun hn h1 h2 z1 z2 => needsBytes_any a0 a1 a2 len0 cap0 len1 cap1 len2 cap2 s1 s2 w hn w0.lenCap h1 h2 z1 z2 w1 w2)
    clear w0 w1 w2
    by_cases h0 : len0 ≤ 4096
    · by_cases h1 : len1 ≤ 4096
      · by_cases h2 : len2 ≤ 4096
        · have h3 : ¬ ((len1 : Int) = (len0 : Int) ∧ (len2 : Int) = (len0 : Int)) := fun e => h ⟨h0, by omega, by omega⟩
          clear h
          go_enter Try.func4, Try.ntmps4
          go_wp2_with (go_at_call 10; refine C10.out.mono ?_; rintro e w' ⟨⟨r, rfl, hr⟩, hw⟩; obtain rfl := hw.symm; clear hw; have HR := hid hr; clear hr; cases r)
          · go_ret
            exact ⟨rfl, Below.refl _ _⟩
          refine (C11.out h0 h1 h2 (HR.out trivial).1 (HR.out trivial).2).mono ?_
          rintro e w' ⟨⟨t, rfl⟩, hw⟩
          obtain rfl := hw.symm
          clear hw C11 C10 HR
          by_cases ht : t > 1048576
          · go_wp2
            go_ret
            exact ⟨rfl, Below.refl _ _⟩
          by_cases h4 : (len1 : Int) = (len0 : Int)
          · have h5 : ¬ (len2 : Int) = (len0 : Int) := fun e => h3 ⟨h4, e⟩
            clear h3
            go_wp2
            go_ret
            exact ⟨rfl, Below.refl _ _⟩
          · clear h3
            go_wp2
            go_ret
            exact ⟨rfl, Below.refl _ _⟩
        · clear h
          go_enter Try.func4, Try.ntmps4
          go_wp2_with (go_at_call 10; refine C10.out.mono ?_; rintro e w' ⟨⟨r, rfl, hr⟩, hw⟩; obtain rfl := hw.symm; clear hw hr; cases r)
          all_goals (go_ret; exact ⟨rfl, Below.refl _ _⟩)
      · clear h
        go_enter Try.func4, Try.ntmps4
        go_wp2_with (go_at_call 10; refine C10.out.mono ?_; rintro e w' ⟨⟨r, rfl, hr⟩, hw⟩; obtain rfl := hw.symm; clear hw hr; cases r)
        all_goals (go_ret; exact ⟨rfl, Below.refl _ _⟩)
    · clear h
      go_enter Try.func4, Try.ntmps4
      go_wp2_with (go_at_call 10; refine C10.out.mono ?_; rintro e w' ⟨⟨r, rfl, hr⟩, hw⟩; obtain rfl := hw.symm; clear hw hr; cases r)
      all_goals (go_ret; exact ⟨rfl, Below.refl _ _⟩)

set_option maxRecDepth 100000 in
theorem lifted (os : Os) (started : os.Started) (H : Type) (enc : TypeId × Value → H) :
    ReturnsInHanded {} Try.checked os 4 .any (Rows.fnNewNeedsIsCountOfVersionsSpec.pre6 enc Try.prog Try.f4 Rows.fnNewNeedsIsCountOfVersionsRow.domain false) (Rows.fnNewNeedsIsCountOfVersionsSpec.post enc Try.prog Try.f4 false true false false) := by
  refine returnsInHanded_of_change (C := Try.checked) own started (by kernel_rfl) Try.func4
    (ChangeSpec.witness6 (enc := enc) (C := Try.checked) false ⟨#[], #[.slice none 0 0, .slice none 0 0, .slice none 0 0], []⟩ 8 (by kernel_rfl) (by kernel_rfl) (by kernel_rfl) (by kernel_rfl)) ?_
  intro W base args ds gs before hval0 hW hcnd _
  have hval : ∀ (j : Nat) t v, Try.f4.params[j]? = some t → args[j]? = some v → Value.okWide Try.prog W .any base t v := hval0
  have hW' := hW
  obtain ⟨p, q, hA0, hV, rfl, hfz, hnd⟩ := hW
  have hA : DataW.TrodAll enc Try.prog W 0 (fun _ => true) true Try.f4.params.toList args.toList ds p := hA0
  rw [Try.params4] at hA hval
  obtain ⟨v0, vs0, d0, ds0, p0, q0, hargs, rfl, rfl, h0, r0⟩ := trodAll_cons hA
  obtain ⟨v1, vs1, d1, ds1, p1, q1, rfl, rfl, rfl, h1, r1⟩ := trodAll_cons r0
  obtain ⟨v2, vs2, d2, ds2, p2, q2, rfl, rfl, rfl, h2, r2⟩ := trodAll_cons r1
  obtain ⟨rfl, rfl, rfl⟩ := trodAll_nil r2
  obtain rfl : args = #[v0, v1, v2] := by cases args; simp_all
  obtain ⟨rfl, rfl⟩ := trodVars_none hV
  obtain ⟨a0, len0, cap0, rfl⟩ := okWide_slice Try.underlying27 (hval 0 27 v0 rfl rfl)
  have k0 := h0
  have lt0 : ∀ x ∈ p0, x.block < W.heap.size := by obtain ⟨m, hm⟩ := k0; exact DataW.trod_lt m _ _ _ hm
  obtain ⟨z0, w0⟩ : ∃ zs, RowI W a0 len0 cap0 zs := by
    obtain ⟨fuel, hf⟩ := h0
    rcases open_ints Try.underlying27 Try.underlying2 (by kernel_rfl) hf with ⟨hcs, _⟩ | ⟨x, l, c, zs, hcs, _, hl, hm, hz, _, hcell, hwz⟩
    · simp [Value.cells] at hcs
      obtain ⟨rfl, rfl, rfl⟩ := hcs
      exact ⟨[], .inl ⟨rfl, rfl, rfl, rfl⟩⟩
    · simp [Value.cells] at hcs
      obtain ⟨rfl, rfl, rfl⟩ := hcs
      exact ⟨zs, .inr ⟨_, rfl, hl, hm, by simpa using hz, hcell, hwz⟩⟩
  obtain ⟨a1, len1, cap1, rfl⟩ := okWide_slice Try.underlying28 (hval 1 28 v1 rfl rfl)
  have k1 := h1
  have lt1 : ∀ x ∈ p1, x.block < W.heap.size := by obtain ⟨m, hm⟩ := k1; exact DataW.trod_lt m _ _ _ hm
  obtain ⟨s1, w1⟩ : ∃ zs, RowS W a1 len1 cap1 zs := by
    obtain ⟨fuel, hf⟩ := h1
    rcases open_strings Try.underlying28 Try.underlying9 (by kernel_rfl) hf with ⟨hcs, _⟩ | ⟨x, l, c, zs, hcs, _, hl, hm, hz, _, hcell, hwz⟩
    · simp [Value.cells] at hcs
      obtain ⟨rfl, rfl, rfl⟩ := hcs
      exact ⟨[], .inl ⟨rfl, rfl, rfl, rfl⟩⟩
    · simp [Value.cells] at hcs
      obtain ⟨rfl, rfl, rfl⟩ := hcs
      exact ⟨zs, .inr ⟨_, rfl, hl, hm, by simpa using hz, hcell, hwz⟩⟩
  obtain ⟨a2, len2, cap2, rfl⟩ := okWide_slice Try.underlying28 (hval 2 28 v2 rfl rfl)
  have k2 := h2
  have lt2 : ∀ x ∈ p2, x.block < W.heap.size := by obtain ⟨m, hm⟩ := k2; exact DataW.trod_lt m _ _ _ hm
  obtain ⟨s2, w2⟩ : ∃ zs, RowS W a2 len2 cap2 zs := by
    obtain ⟨fuel, hf⟩ := h2
    rcases open_strings Try.underlying28 Try.underlying9 (by kernel_rfl) hf with ⟨hcs, _⟩ | ⟨x, l, c, zs, hcs, _, hl, hm, hz, _, hcell, hwz⟩
    · simp [Value.cells] at hcs
      obtain ⟨rfl, rfl, rfl⟩ := hcs
      exact ⟨[], .inl ⟨rfl, rfl, rfl, rfl⟩⟩
    · simp [Value.cells] at hcs
      obtain ⟨rfl, rfl, rfl⟩ := hcs
      exact ⟨zs, .inr ⟨_, rfl, hl, hm, by simpa using hz, hcell, hwz⟩⟩
  clear hA0 hval0
  refine (walk a0 len0 cap0 z0 a1 len1 cap1 s1 a2 len2 cap2 s2 W w0 w1 w2).mono fun e W' ⟨he, bel⟩ => ?_
  subst he
  exact ⟨_, rfl, _, _, _, [], _, [], hW', trodAll_mk1 (shut_bool Try.underlying4 _), (trodAll_cons_mk (Below.trod laidOut (by kernel_rfl) (of_decide_eq_true (by kernel_rfl)) k0 bel lt0) (trodAll_cons_mk (Below.trod laidOut (by kernel_rfl) (of_decide_eq_true (by kernel_rfl)) k1 bel lt1) (trodAll_cons_mk (Below.trod laidOut (by kernel_rfl) (of_decide_eq_true (by kernel_rfl)) k2 bel lt2) trodAll_mk0))), rfl, bel.frame _, fun h => by cases h⟩

theorem over : Rows.fnNewNeedsIsCountOfVersionsRow.holds Try.pinned (OpenSpec.ofChange Rows.fnNewNeedsIsCountOfVersionsSpec) :=
  OpenClaim.holds_of_wide 4 Try.f4 rfl rfl rfl rfl rfl rfl rfl ⟨rfl, rfl, rfl, rfl, rfl⟩ rfl rfl rfl rfl rfl (by kernel_rfl) Try.func4 (by kernel_rfl)
    (of_decide_eq_true (by kernel_rfl)) (by unfold Func.isWrapper; first | (rw [if_pos (by decide +kernel)]; kernel_rfl) | (rw [if_neg (by decide +kernel)]; exact ⟨rfl, rfl⟩))
    (fun os started H enc _ => lifted os started H enc)

/-- ████ THE STATEMENT ████ -/
theorem proved : Rows.FnNewNeedsIsCountOfVersionsSaid := over
#print axioms proved
end Go.Proofs.Qxb6601677a.fnNewNeedsIsCountOfVersions
