/-
  The walk of FnDeepestReadingMatchesRewritingToFixpoint (7).
-/
import Derived.Test.Qxb6601358aDeepWalk
namespace Go.Proofs.Qxb6601358a
open Go.ChangeShapes Go.WideShapes Go.ChangeAt Go.RowKit
open Ov Deep
set_option linter.unusedVariables false

theorem hid {p : Prop} (h : p) : Hid p := h

theorem zzdeep_any (s : ByteArray) (C B : Nat) (og : List Int) (base : Nat) (w : World) (ao : Option Addr) (hs : s.size ≤ 4096) (hbase : base ≤ w.heap.size)
    (hbuf : (ao = none ∧ C = 0) ∨ (ao = some ⟨B, 0, none⟩ ∧ Own s.size C B og base w B C [])) :
    Calls Try.prog 20 #[.slice ao C C, .string s] w fun e w' => ∃ v, e = .returned v ∧ DeepPost s C B og base w ao v w' := by
  have HC := hid (deep_any s C B og base w ao hs hbase hbuf)
  clear hbuf
  go_enter Try.func20, Try.ntmps20
  go_wp2_with fail
  refine HC.out.mono ?_
  rintro e w' ⟨v, rfl, HD⟩
  go_wp2
  go_ret
  exact ⟨v, rfl, HD⟩

/-- The buffer as the clone leaves it. -/
theorem own_start {w : World} {B C : Nat} {zs : List Int} {M base : Nat} (h : w.ownsRow B 5 1 (.slice (some ⟨B, 0, none⟩) C C) C (zs.map (Value.int .u8))) (hz : zs.length = C) : Own M C B zs base w B C [] := by
  rcases h.2 with ⟨h', _⟩ | ⟨g', cap', cur, h', hb, hg, hnc, hcm, hcs, htake⟩
  · simp at h'
  · simp only [Value.slice.injEq, Option.some.injEq, Addr.mk.injEq, and_true, true_and] at h'
    obtain ⟨rfl, rfl⟩ := h'
    refine ⟨.inl rfl, by simp, hcm, cur, hg, by omega, by simp, fun _ => ⟨rfl, rfl, fun j _ hj => ?_⟩⟩
    rw [List.take_of_length_le (by simp; omega)] at htake
    have : cur[j]? = cur.toList[j]? := by simp
    rw [this, htake]
    simp [hz, hj]

set_option maxHeartbeats 2000000 in
set_option maxRecDepth 20000 in
theorem deep_some (x : Addr) (C cap0 : Nat) (z0 : List Int) (s : ByteArray) (w : World) (hr : Rd w (some x) z0) (hz : z0.length = cap0) (hnc : C ≤ cap0) (hC : C ≤ 524288) (hs : s.size ≤ 4096) :
    Calls Try.prog 7 #[.slice (some x) C cap0, .string s] w fun e w' => e = .returned (.bool true) ∧ Below w.heap.size w w' := by
  have hnil := fun (w : World) (a : Option Addr) (n c : Nat) => Lib.run_eql_slice_nil (P := Try.prog) w _ _ a n c 0 0 Try.underlying22
  go_enter Try.func7, Try.ntmps7
  go_wp2_with (go_at_call 19; go_in)
  refine (clone_some x C cap0 z0 _ hr hz hnc (by omega)).mono ?_
  rintro e w1 ⟨rfl, hown1, hbel1, hsz1⟩
  have hzl : (z0.take C).length = C := by simp; omega
  generalize z0.take C = zs at hown1 hzl
  have Hzl : Hid (zs.length = C) := hzl
  clear hzl hr hz hnc
  have hr1 := Rd.of_own (v := .bool true) hown1
  have C2 : Hid (∀ W, Rd W (some ⟨w.heap.size, 0, none⟩) zs → Calls Try.prog 10 #[.slice (some ⟨w.heap.size, 0, none⟩) C C] W fun e w' => e = .returned (.slice (some ⟨W.heap.size, 0, none⟩) C C) ∧
      w'.ownsRow W.heap.size 5 1 (.slice (some ⟨W.heap.size, 0, none⟩) C C) C ((zs.take C).map (Value.int .u8)) ∧ Below W.heap.size W w' ∧ W.heap.size < w'.heap.size) := fun W hW => clone_some _ C C zs W hW Hzl.out (Nat.le_refl _) (by omega)
  rw [List.take_of_length_le (by rw [Hzl.out]; exact Nat.le_refl _)] at C2
  go_wp2_with fail
  refine (C2.out _ hr1).mono ?_
  rintro e w2 ⟨rfl, hown2, hbel2, hsz2⟩
  clear C2
  have hr2 := Rd.of_own (v := .bool true) hown2
  have hst : Own s.size C w.heap.size zs w2.heap.size w2 w.heap.size C [] := (own_start hown1 Hzl.out).same (hbel2.block _ hsz1)
  have hbw2 : Below w.heap.size w w2 := hbel1.trans (hbel2.mono hbel1.size)
  have CD := hid (zzdeep_any s C w.heap.size zs w2.heap.size w2 (some ⟨w.heap.size, 0, none⟩) hs (Nat.le_refl _) (.inr ⟨rfl, hst⟩))
  clear hst hown1 hown2 hr1 hbel1 hbel2
  go_wp2_with fail
  refine CD.out.mono ?_
  rintro e w3 ⟨v, rfl, HD⟩
  clear CD
  obtain ⟨xs, hrdg, hxl, hkp, hv⟩ := HD
  rcases hv with ⟨_, _, _, h⟩ | ⟨g, cap, rfl, hown3, _⟩
  · cases h
  have hs3 := hkp.size
  -- what stands in the third world
  have hr3 := hown3.rd
  have hr23 : Rd w3 (some ⟨w1.heap.size, 0, none⟩) zs := by
    intro i hi
    obtain ⟨b, off, hab, hc⟩ := hr2 i hi
    refine ⟨b, off, hab, ?_⟩
    simp only [Option.some.injEq, Addr.mk.injEq, and_true] at hab
    obtain ⟨rfl, rfl⟩ := hab
    rw [← hc]
    exact World.cell?_of_block (hkp.block _ hsz2 (show w1.heap.size ≠ w.heap.size by omega))
  have hbw3 : Below w.heap.size w w3 := hbw2.trans ⟨hkp.os, hkp.tape, hkp.output, hkp.size, fun k hk => hkp.block k (by omega) (by omega)⟩
  have HTAIL : Hid (s.size ≤ C → g = w.heap.size ∧ cap = C ∧ ∀ j, s.size ≤ j → j < C → w3.cell? ⟨w.heap.size, j, none⟩ = some (.int .u8 (zs.getD j 0))) := by
    intro hMC
    obtain ⟨_, _, _, cur, q4, q5, q6, q7⟩ := hown3
    obtain ⟨a, b, c⟩ := q7 hMC
    refine ⟨a, b, fun j hj hjC => ?_⟩
    rw [a] at q4
    rw [cell_of_row w3 _ j cur 5 (0, 0) q4]
    exact c j hj hjC
  have hcapx := hown3.2.1
  have HRX : Hid (Rdg (sb s) [] xs) := hrdg
  clear hr2 hkp hbw2 hown3 hrdg
  have CF := hid (fun W => fix_any s W hs)
  go_wp2_with fail
  refine (CF.out _).mono ?_
  rintro e w4 ⟨g2, n2, cap2, cs, rfl, hcl, hn2, hg2, hrc, HRC, hbel4⟩
  have hxc : xs = cs := rdg_det _ _ _ _ HRX.out HRC.out
  subst hxc
  subst hcl
  have hrx4 := hr3.mono hbel4
  have hro4 := hr23.mono hbel4
  have hbw4 : Below w.heap.size w w4 := hbw3.trans (hbel4.mono hbw3.size)
  have HT4 : Hid (s.size ≤ C → g = w.heap.size ∧ cap = C ∧ ∀ j, s.size ≤ j → j < C → w4.cell? ⟨w.heap.size, j, none⟩ = some (.int .u8 (zs.getD j 0))) := by
    intro hMC
    obtain ⟨a, b, c⟩ := HTAIL.out hMC
    refine ⟨a, b, fun j hj hjC => ?_⟩
    rw [hbel4.cell (p := ⟨w.heap.size, j, none⟩) (show w.heap.size < w3.heap.size by omega)]
    exact c j hj hjC
  clear CF HRX HRC HTAIL hr3 hr23 hbw3 hbel4
  have CS := hid (fun (W : World) (a b : Option Addr) (c d : Nat) (h1 : Rd W a xs) (h2 : Rd W b xs) => same_eq a b xs.length c d xs W rfl (by omega) h1 h2)
  go_wp2_with fail
  refine (CS.out _ _ _ _ _ hrx4 hrc).mono ?_
  rintro e w5 ⟨rfl, q, rfl⟩
  have hx5 : Rd (w4.drewN q) (some ⟨g, 0, none⟩) xs := hrx4
  have hc5 : Rd (w4.drewN q) (some ⟨g2, 0, none⟩) xs := hrc
  have ho5 : Rd (w4.drewN q) (some ⟨w1.heap.size, 0, none⟩) zs := hro4
  have hb5 : Below w.heap.size w (w4.drewN q) := ⟨hbw4.os, hbw4.tape, hbw4.output, hbw4.size, hbw4.block⟩
  have HT5 : Hid (s.size ≤ C → g = w.heap.size ∧ cap = C ∧ ∀ j, s.size ≤ j → j < C → (w4.drewN q).cell? ⟨w.heap.size, j, none⟩ = some (.int .u8 (zs.getD j 0))) := HT4
  clear hrx4 hrc hro4 hbw4 HT4
  generalize w4.drewN q = W5 at hx5 hc5 ho5 hb5 HT5 ⊢
  by_cases hMC : s.size ≤ C
  · obtain ⟨rfl, rfl, htl⟩ := HT5.out hMC
    have HTL : Hid (∀ j, s.size ≤ j → j < cap → W5.cell? ⟨w.heap.size, j, none⟩ = some (.int .u8 (zs.getD j 0))) := htl
    clear htl HT5
    go_wp2_with fail
    refine (CS.out _ _ _ _ _ hx5 hc5).mono ?_
    rintro e w6 ⟨rfl, q2, rfl⟩
    clear CS
    go_wp2_with fail
    go_loopg [8] (cap - s.size) (fun k s8 wx => ∃ (j q : Nat), W5.drewN q = wx ∧ s.size ≤ j ∧ j ≤ cap ∧ k = cap - j ∧ s8 = .int .i64 j)
    case atStart => exact ⟨s.size, q2, rfl, Nat.le_refl _, hMC, rfl, rfl⟩
    case round =>
      obtain ⟨j, q3, rfl, hj1, hj2, rfl, rfl⟩ := hrel
      by_cases hlt : j < cap
      · have hc1 := HTL.out j hj1 hlt
        have hc2 := rd_at ho5 j (by rw [Hzl.out]; exact hlt)
        generalize zs.getD j 0 = y at hc1 hc2
        have hk0 : (j : Int) < (cap : Int) := by omega
        go_wp2
        go_quiet (fail)
        go_wp2
        go_roundg (cap - (j + 1))
        case measure => omega
        case rel => exact ⟨j + 1, _, rfl, by omega, by omega, rfl, by go_num⟩
      · go_wp2
        go_ret
        exact ⟨rfl, ⟨hb5.os, hb5.tape, hb5.output, hb5.size, hb5.block⟩⟩
  · clear CS HT5
    go_wp2_with fail
    refine wp_loop_rounds 1 ?_
    rw [rounds_succ]
    go_wp2
    go_ret
    exact ⟨rfl, hb5⟩

set_option maxHeartbeats 2000000 in
set_option maxRecDepth 20000 in
theorem deep_nil (s : ByteArray) (w : World) (hs : s.size ≤ 4096) :
    Calls Try.prog 7 #[.slice none 0 0, .string s] w fun e w' => e = .returned (.bool true) ∧ Below w.heap.size w w' := by
  have hnil := fun (w : World) (a : Option Addr) (n c : Nat) => Lib.run_eql_slice_nil (P := Try.prog) w _ _ a n c 0 0 Try.underlying22
  go_enter Try.func7, Try.ntmps7
  go_wp2_with (go_at_call 19; go_in)
  refine (clone_nil _).mono ?_
  rintro e w1 ⟨rfl, hw⟩
  obtain rfl := hw.symm
  clear hw
  go_wp2_with fail
  refine (clone_nil _).mono ?_
  rintro e w1 ⟨rfl, hw⟩
  obtain rfl := hw.symm
  clear hw
  have CD := hid (zzdeep_any s 0 w.heap.size [] w.heap.size w none hs (Nat.le_refl _) (.inl ⟨rfl, rfl⟩))
  go_wp2_with fail
  refine CD.out.mono ?_
  rintro e w3 ⟨v, rfl, HD⟩
  clear CD
  obtain ⟨xs, hrdg, hxl, hkp, hv⟩ := HD
  have hbw3 : Below w.heap.size w w3 := ⟨hkp.os, hkp.tape, hkp.output, hkp.size, fun k hk => hkp.block k hk (by omega)⟩
  have HRX : Hid (Rdg (sb s) [] xs) := hrdg
  have HV := hid hv
  have CF := hid (fun W => fix_any s W hs)
  clear hkp hrdg hv
  go_wp2_with fail
  refine (CF.out _).mono ?_
  rintro e w4 ⟨g2, n2, cap2, cs, rfl, hcl, hn2, hg2, hrc, HRC, hbel4⟩
  have hxc : xs = cs := rdg_det _ _ _ _ HRX.out HRC.out
  subst hxc
  subst hcl
  have hbw4 : Below w.heap.size w w4 := hbw3.trans (hbel4.mono hbw3.size)
  have CS := hid (fun (W : World) (a b : Option Addr) (c d : Nat) (h1 : Rd W a xs) (h2 : Rd W b xs) => same_eq a b xs.length c d xs W rfl (by omega) h1 h2)
  clear CF HRX HRC
  rcases HV.out with ⟨rfl, rfl, h0, _⟩ | ⟨g, cap, rfl, hown3, hne⟩
  · have hrn : Rd w4 none [] := fun i hi => by simp at hi
    have hse : s = ByteArray.empty := ByteArray.size_eq_zero_iff.1 h0
    subst hse
    clear HV
    go_wp2_with fail
    refine (CS.out _ none _ 0 _ hrn hrc).mono ?_
    rintro e w5 ⟨rfl, q, rfl⟩
    have hrn5 : Rd (w4.drewN q) none [] := hrn
    have hrc5 : Rd (w4.drewN q) (some ⟨g2, 0, none⟩) [] := hrc
    go_wp2_with fail
    refine (CS.out _ none _ 0 _ hrn5 hrc5).mono ?_
    rintro e w6 ⟨rfl, q2, rfl⟩
    go_wp2_with fail
    refine wp_loop_rounds 1 ?_
    rw [rounds_succ]
    go_wp2
    go_ret
    exact ⟨rfl, ⟨hbw4.os, hbw4.tape, hbw4.output, hbw4.size, hbw4.block⟩⟩
  · have hrx4 := hown3.rd.mono hbel4
    have hs0 : 0 < s.size := by have := hne (by first | rfl | trivial); omega
    have hse : ((s.size : Int) == 0) = false := beq_eq_false_iff_ne.2 (by omega)
    have hsne : ¬ s = ByteArray.empty := fun h => by rw [h] at hs0; simp at hs0
    clear HV hne hown3
    go_wp2_with fail
    refine (CS.out _ _ _ _ _ hrx4 hrc).mono ?_
    rintro e w5 ⟨rfl, q, rfl⟩
    go_wp2_with fail
    refine wp_loop_rounds 1 ?_
    rw [rounds_succ]
    go_wp2
    go_ret
    exact ⟨rfl, ⟨hbw4.os, hbw4.tape, hbw4.output, hbw4.size, hbw4.block⟩⟩

end Go.Proofs.Qxb6601358a
