/-
  The walk of list (30).
-/
import Derived.Test.Qxb6601677aListOrder
namespace Go.Proofs.Qxb6601677a
open Go.ChangeShapes Go.WideShapes Go.ChangeAt Go.RowKit
set_option linter.unusedVariables false

set_option maxHeartbeats 4000000 in
set_option maxRecDepth 20000 in
theorem list_any (S Bs n : Nat) (cs rs : List Int) (W : World) (hn : n ≤ 4096) (h : LPre W S Bs n cs rs) (hc : ∀ j, j < n → 0 ≤ cs.getD j 0) (hcm : ∀ j, j < n → cs.getD j 0 ≤ 9223372036854775807) (hrm : ∀ j, j < n → rs.getD j 0 ≤ 9223372036854775807) :
    Calls Try.prog 30 #[.slice (some ⟨S, 0, none⟩) n n] W (ListPost W Bs n cs rs) := by
  have HLE := hid (pos_le Bs cs rs n hcm hrm)
  clear hcm hrm
  obtain ⟨i1, hi, hz0, hz1, hz2⟩ := info_parts Try.info71
  obtain ⟨i2, gi, gz0, gz1, gz2⟩ := info_parts Try.info23
  have HP := h
  clear h
  go_enter Try.func30, Try.ntmps30
  go_upto_block 0 with fail
  go_cut [3, 4] (fun s3 s4 wx => wx.ownsRow W.heap.size 71 2 s3 (Ls.pos Bs cs rs n).length (flat (Ls.pos Bs cs rs n)) ∧ wx.ownsRow W.heap.size 23 1 s4 (Ls.opn Bs rs n).length ((Ls.opn Bs rs n).map fun b => .pointer (some ⟨b, 0, none⟩)) ∧ Below W.heap.size W wx)
  case first =>
    go_wp2_with fail
    go_loopg [3, 4, 16] n (fun g s3 s4 s16 wx => ∃ (k : Nat), s16 = .int .i64 k ∧ k ≤ n ∧ g = n - k ∧ wx.ownsRow W.heap.size 71 2 s3 (Ls.pos Bs cs rs k).length (flat (Ls.pos Bs cs rs k)) ∧ wx.ownsRow W.heap.size 23 1 s4 (Ls.opn Bs rs k).length ((Ls.opn Bs rs k).map fun b => .pointer (some ⟨b, 0, none⟩)) ∧ Below W.heap.size W wx)
    case atStart => exact ⟨0, rfl, by omega, rfl, World.ownsRow_nil _ _ _ _, World.ownsRow_nil _ _ _ _, Below.refl _ _⟩
    case round =>
      obtain ⟨k, rfl, hk, rfl, hv, hu, hb⟩ := hrel
      by_cases hlt : k < n
      · have hsz := hb.size
        have hlens := Ls.lens Bs cs rs k
        have hEb : Ls.E Bs k < W.heap.size := by have := HP.lt; unfold Ls.E; omega
        have hPb : Bs + 3 * k < W.heap.size := by have := HP.lt; omega
        have hSb : S < W.heap.size := by have := HP.lt; omega
        have a1 : wr.cell? ⟨S, k, none⟩ = some (.pointer (some ⟨Ls.E Bs k, 0, none⟩)) := (hb.cell (p := ⟨S, k, none⟩) hSb).trans (HP.es k hlt)
        have a2 : wr.cell? ⟨Ls.E Bs k, 0, none⟩ = some (.pointer (some ⟨Bs + 3 * k, 0, none⟩)) := (hb.cell (p := ⟨Ls.E Bs k, 0, none⟩) hEb).trans (HP.eo k hlt)
        have a3 : wr.cell? ⟨Ls.E Bs k, 1, none⟩ = some (.pointer (some ⟨Ls.N Bs k, 0, none⟩)) := (hb.cell (p := ⟨Ls.E Bs k, 1, none⟩) hEb).trans (HP.en k hlt)
        have a4 : wr.cell? ⟨Bs + 3 * k, 9, none⟩ = some (.int .i64 (cs.getD k 0)) := (hb.cell (p := ⟨Bs + 3 * k, 9, none⟩) hPb).trans (HP.pc k hlt)
        have a5 : wr.cell? ⟨Bs + 3 * k, 10, none⟩ = some (.int .i64 (rs.getD k 0)) := (hb.cell (p := ⟨Bs + 3 * k, 10, none⟩) hPb).trans (HP.pr k hlt)
        have hc0 := hc k hlt
        have hpos : Hid (Ls.pos Bs cs rs (k + 1) = Ls.pos Bs cs rs k ++ (((cs.getD k 0).toNat, Ls.E Bs k) :: if 0 ≤ rs.getD k 0 then [((rs.getD k 0).toNat, Ls.N Bs k)] else [])) := rfl
        have hopn : Hid (Ls.opn Bs rs (k + 1) = Ls.opn Bs rs k ++ if 0 ≤ rs.getD k 0 then [] else [Ls.N Bs k]) := rfl
        generalize cs.getD k 0 = c at *
        generalize rs.getD k 0 = r at *
        generalize Ls.E Bs k = Ek at *
        generalize Ls.N Bs k = Nk at *
        generalize Bs + 3 * k = Pk at *
        generalize hp1 : Ls.pos Bs cs rs (k + 1) = p1 at *
        generalize ho1 : Ls.opn Bs rs (k + 1) = o1 at *
        have HP1 : Hid (Ls.pos Bs cs rs (k + 1) = p1 ∧ Ls.opn Bs rs (k + 1) = o1) := ⟨hp1, ho1⟩
        clear hp1 ho1
        generalize Ls.pos Bs cs rs k = p0 at *
        generalize Ls.opn Bs rs k = o0 at *
        go_wp2_with (at_builtin; refine wpList_append_own _ rfl (.tmp 20) (.tmp 30) 69 rfl W.heap.size 71 i1 (.agg #[.int .i64 0, .pointer none]) 2 16 Try.underlying69 hi hz0 hz1 hz2 rfl (by decide) _ _ _ rfl (hv.alloc _) ⟨wr.heap.size, 0, none⟩ 1 1 [.int .i64 c, .pointer (some ⟨Ek, 0, none⟩)] rfl rfl ?c1 ?c2 ?c3 ?c4 ?c5 ?_)
        case c1 => exact two_new _ _ _ _
        case c2 => exact two_one _ _
        case c3 => unfold maxLen; omega
        case c4 => omega
        case c5 => simp; omega
        rintro v1 w1 hv1 hg1 hnn
        have hc2 : ((c.toNat : Nat) : Int) = c := Int.toNat_of_nonneg hc0
        have hb1 : Below W.heap.size W w1 := (hb.alloc hsz _).grown hg1 (by simp; omega) (fun q hq => (hv.lt q hq).1)
        have hu1 : w1.ownsRow W.heap.size 23 1 u4 o0.length (o0.map fun b => .pointer (some ⟨b, 0, none⟩)) := (hu.alloc _).kept hg1 (own_ne hv hu (by decide))
        have hsz1 := hb1.size
        have b2 := (hb1.cell (p := ⟨Ek, 0, none⟩) hEb).trans ((hb.cell (p := ⟨Ek, 0, none⟩) hEb).symm.trans a2)
        have b3 := (hb1.cell (p := ⟨Ek, 1, none⟩) hEb).trans ((hb.cell (p := ⟨Ek, 1, none⟩) hEb).symm.trans a3)
        have b5 := (hb1.cell (p := ⟨Pk, 10, none⟩) hPb).trans ((hb.cell (p := ⟨Pk, 10, none⟩) hPb).symm.trans a5)
        clear hv hu hb hg1 a1 a2 a3 a4 a5 hnn
        by_cases hr : 0 ≤ r
        · have hr2 : ((r.toNat : Nat) : Int) = r := Int.toNat_of_nonneg hr
          have hr' : ¬ r < 0 := by omega
          go_wp2_with fail
          go_region_held3 (fun w' => w'.cell? ⟨Ek, 0, none⟩ = some (.pointer (some ⟨Pk, 0, none⟩)) ∧ w'.cell? ⟨Ek, 1, none⟩ = some (.pointer (some ⟨Nk, 0, none⟩)) ∧ w'.cell? ⟨Pk, 10, none⟩ = some (.int .i64 r)) (go_keep) (first | (refine step_own rfl (.tmp 47) (.tmp 60) 69 rfl W.heap.size 71 i1 (.agg #[.int .i64 0, .pointer none]) 2 16 Try.underlying69 hi hz0 hz1 hz2 rfl (by decide) v1 (p0.length + 1) (flat p0 ++ [.int .i64 c, .pointer (some ⟨Ek, 0, none⟩)]) (by rfl) (hv1.alloc _).drew ⟨w1.heap.size, 0, none⟩ 1 1 [.int .i64 r, .pointer (some ⟨Nk, 0, none⟩)] (by rfl) rfl (two_new_drew _ _ _ _) (two_one _ _) (by unfold maxLen; omega) (by omega) (Nat.le_trans hsz1 (by simp)) ?_; intro v2 w2 hv2 hg2; have hb2 : Below W.heap.size W w2 := (hb1.alloc hsz1 _).drew.grown hg2 (Nat.le_trans hsz1 (by simp)) (fun q hq => (hv1.lt q hq).1); have q2 := (hb2.cell (p := ⟨Ek, 0, none⟩) hEb).trans ((hb1.cell (p := ⟨Ek, 0, none⟩) hEb).symm.trans b2); have q3 := (hb2.cell (p := ⟨Ek, 1, none⟩) hEb).trans ((hb1.cell (p := ⟨Ek, 1, none⟩) hEb).symm.trans b3); have q5 := (hb2.cell (p := ⟨Pk, 10, none⟩) hPb).trans ((hb1.cell (p := ⟨Pk, 10, none⟩) hPb).symm.trans b5)))
          have HL1 : Hid (p1.length = p0.length + 2 ∧ o1.length = o0.length) := by show _ ∧ _; rw [hpos.out, hopn.out]; simp [hr]
          have HF1 : Hid (w2.ownsRow W.heap.size 71 2 v2 p1.length (flat p1) ∧ w2.ownsRow W.heap.size 23 1 u4 o1.length (o1.map fun b => .pointer (some ⟨b, 0, none⟩))) := by
            refine ⟨?_, ?_⟩
            · rw [HL1.out.1, hpos.out, flat_append]
              simpa [hr, flat, hc2, hr2] using hv2
            · rw [HL1.out.2, hopn.out]
              simpa [hr] using (hu1.alloc _).drew.kept hg2 (own_ne hv1 hu1 (by decide))
          clear hv2 hpos hopn hlens
          go_wp2
          go_roundg (n - (k + 1))
          case measure => omega
          case rel => exact ⟨k + 1, by go_num, by omega, rfl, by rw [HP1.out.1]; exact HF1.out.1, by rw [HP1.out.2]; exact HF1.out.2, hb2⟩
        · have hr' : r < 0 := by omega
          go_wp2_with (at_builtin; refine wpList_append_own _ rfl (.tmp 40) (.tmp 45) 33 rfl W.heap.size 23 i2 (.pointer none) 1 8 Try.underlying33 gi gz0 gz1 gz2 rfl (by decide) _ _ _ rfl (hu1.alloc _) ⟨w1.heap.size, 0, none⟩ 1 1 [.pointer (some ⟨Nk, 0, none⟩)] rfl rfl ?d1 ?d2 ?d3 ?d4 ?d5 ?_)
          case d2 => rfl
          case d3 => unfold maxLen; omega
          case d4 => omega
          case d5 => omega
          rintro v2 w2 hv2 hg2 hnn
          have hb2 : Below W.heap.size W w2 := (hb1.alloc hsz1 _).grown hg2 (by simp; omega) (fun q hq => (hu1.lt q hq).1)
          have hv3 := (hv1.alloc _).kept hg2 (own_ne hu1 hv1 (by decide))
          have HL1 : Hid (p1.length = p0.length + 1 ∧ o1.length = o0.length + 1) := by show _ ∧ _; rw [hpos.out, hopn.out]; simp [show ¬ 0 ≤ r by omega]
          have HF1 : Hid (w2.ownsRow W.heap.size 71 2 v1 p1.length (flat p1) ∧ w2.ownsRow W.heap.size 23 1 v2 o1.length (o1.map fun b => .pointer (some ⟨b, 0, none⟩))) := by
            refine ⟨?_, ?_⟩
            · rw [HL1.out.1, hpos.out, flat_append]
              simpa [show ¬ 0 ≤ r by omega, flat, hc2] using hv3
            · rw [HL1.out.2, hopn.out]
              simpa [show ¬ 0 ≤ r by omega] using hv2
          clear hv3 hv2 hpos hopn hlens
          go_wp2
          go_roundg (n - (k + 1))
          case measure => omega
          case rel => exact ⟨k + 1, by go_num, by omega, rfl, by rw [HP1.out.1]; exact HF1.out.1, by rw [HP1.out.2]; exact HF1.out.2, hb2⟩
      · obtain rfl : k = n := by omega
        go_wp2
        go_meet
        case rel => exact ⟨hv, hu, hb⟩
  case rest =>
    obtain ⟨hv, hu, hb⟩ := hcut
    obtain ⟨ao, cap, rfl, hcap, hao⟩ := own_slice hv
    obtain ⟨bo, cap2, rfl, hcap2, hbo⟩ := own_slice hu
    have hlens := Ls.lens Bs cs rs n
    obtain ⟨lp, hlp⟩ : ∃ lp, lp = (Ls.pos Bs cs rs n).length := ⟨_, rfl⟩
    obtain ⟨lo, hlo⟩ : ∃ lo, lo = (Ls.opn Bs rs n).length := ⟨_, rfl⟩
    rw [← hlp] at hv hcap hao hlens ⊢
    rw [← hlo] at hu hcap2 hbo hlens ⊢
    have C34 := hid (sort_list hlp hlo hn hv hu hb HLE.out)
    have HLP := hid hlp
    have HLO := hid hlo
    have HAO := hid hao
    have HBO := hid hbo
    clear hlp hlo hv hu hb hao hbo hc
    go_wp2_with (go_at_call 34; refine C34.out.mono ?_; rintro e W2 ⟨rfl, L, HS⟩)
    obtain ⟨hperm, hsrt, hll, hv2, hu2, hb2⟩ := HS.out
    have hs2 := hb2.size
    have hBs := HP.lt
    have inj := chn_inj (H := W2.heap.size) hperm (by omega)
    have h0 : chn W2.heap.size (L.map (·.2) ++ Ls.opn Bs rs n) 0 = W2.heap.size := by simp [chn]
    have hlt : ∀ i, 1 ≤ i → i ≤ 2 * n → chn W2.heap.size (L.map (·.2) ++ Ls.opn Bs rs n) i < W.heap.size := fun i h1 h2 => by
      have := chn_lt (H := W2.heap.size) hperm i h1 h2
      omega
    have hfst := fun k hk => chn_first (Bs := Bs) (n := n) (H := W2.heap.size) (rs := rs) L k hk
    have hlst := fun j hj => chn_last (Bs := Bs) (n := n) (H := W2.heap.size) (rs := rs) L j hj
    have hx : ∀ i, 1 ≤ i → i ≤ 2 * n → W2.cell? ⟨chn W2.heap.size (L.map (·.2) ++ Ls.opn Bs rs n) i, 2, none⟩ = some (.pointer none) ∧ W2.cell? ⟨chn W2.heap.size (L.map (·.2) ++ Ls.opn Bs rs n) i, 3, none⟩ = some (.pointer none) ∧ ∀ o, W2.frozen? ⟨chn W2.heap.size (L.map (·.2) ++ Ls.opn Bs rs n) i, o, none⟩ = false := by
      intro i h1 h2
      have hl := hlt i h1 h2
      obtain ⟨q1, q2, q3⟩ := HP.nl _ (chn_mem (H := W2.heap.size) hperm i h1 h2)
      exact ⟨(hb2.cell hl).trans q1, (hb2.cell hl).trans q2, fun o => (hb2.frozen hl).trans (q3 o)⟩
    have HFIN : Hid (∀ w, LInv W2 (W2.heap.size + 1) (2 * n) (chn W2.heap.size (L.map (·.2) ++ Ls.opn Bs rs n)) (2 * n) w → ListPost W Bs n cs rs (.returned (.pointer (some ⟨W2.heap.size, 0, none⟩))) w) := fun w h =>
      ⟨W2.heap.size, W2.heap.size + 1, L, W2, rfl, hs2, by have := h.Tlt; omega, hperm, hsrt, hb2, h⟩
    have HLO2 : Hid (lo = (Ls.opn Bs rs n).length) := HLO
    generalize chn W2.heap.size (L.map (·.2) ++ Ls.opn Bs rs n) = c at inj h0 hlt hfst hlst hx HFIN
    generalize Ls.opn Bs rs n = on at hlst hu2 HLO2
    have hTn : ∀ i, i ≤ 2 * n → W2.heap.size + 1 ≠ c i := fun i hi => by
      by_cases hi0 : i = 0
      · rw [hi0, h0]; omega
      · have := hlt i (by omega) hi
        omega
    have HADD := hid (add_chain (W2 := W2) (T := W2.heap.size + 1) inj hTn (by omega))
    have hrv : Hid (∀ k w, LInv W2 (W2.heap.size + 1) (2 * n) c k w → w.ownsRow W.heap.size 71 2 (.slice ao L.length cap) L.length (flat L)) := fun k w h => h.row hv2 (fun i hi e => by
      obtain ⟨e1, e2⟩ := hv2.lt _ e
      by_cases hi0 : i = 0
      · rw [hi0, h0] at e2; omega
      · have := hlt i (by omega) hi
        omega)
    have hru : Hid (∀ k w, LInv W2 (W2.heap.size + 1) (2 * n) c k w → w.ownsRow W.heap.size 23 1 (.slice bo on.length cap2) on.length (on.map fun b => .pointer (some ⟨b, 0, none⟩))) := fun k w h => h.row hu2 (fun i hi e => by
      obtain ⟨e1, e2⟩ := hu2.lt _ e
      by_cases hi0 : i = 0
      · rw [hi0, h0] at e2; omega
      · have := hlt i (by omega) hi
        omega)
    have HST := hid (fun Hc h2 h3 => chain0 (W2 := W2) (m := 2 * n) Hc h0 h2 h3 hx)
    have HFS := hid hfst
    have HLS := hid hlst
    have HLL := hid hll
    clear hx hTn inj hlt h0 hfst hlst hv2 hu2 hb2 hsrt hperm HS C34 hll HLP HLO HLE HP hs2 hBs
    go_loopg [71] lp (fun g s71 wx => ∃ (k : Nat), s71 = .int .i64 k ∧ k ≤ lp ∧ g = lp - k ∧ LInv W2 (W2.heap.size + 1) (2 * n) c k wx)
    case atStart => exact ⟨0, rfl, by omega, rfl, HST.out _ rfl rfl⟩
    case round =>
      obtain ⟨k, rfl, hk, rfl, hI⟩ := hrel
      by_cases hlt : k < lp
      · obtain ⟨g, rfl, hg1, hg2⟩ := HAO.out (by omega)
        have hrow := hrv.out k wr hI
        obtain ⟨a1, a2⟩ := flat_cell hrow k (by rw [HLL.out]; exact hlt)
        have CA := hid (fun w h => HADD.out k (L[k]!).2 (by omega) (HFS.out k (by rw [HLL.out]; exact hlt)).symm w h)
        have HI := hid (hI.alloc (by omega))
        generalize ((L[k]!).1 : Int) = px at a1
        generalize (L[k]!).2 = pb at a2 CA
        clear hrow hI HADD
        go_wp2_with (go_at_call 36; refine (CA.out _ (HI.out _)).mono ?_; rintro e w' ⟨rfl, hI2⟩)
        go_roundg (lp - (k + 1))
        case measure => omega
        case rel => exact ⟨k + 1, by go_num, by omega, rfl, hI2⟩
      · obtain rfl : k = lp := by omega
        go_wp2_with fail
        go_loopg [82] lo (fun g s82 wx => ∃ (j : Nat), s82 = .int .i64 j ∧ j ≤ lo ∧ g = lo - j ∧ LInv W2 (W2.heap.size + 1) (2 * n) c (k + j) wx)
        case atStart => exact ⟨0, rfl, by omega, rfl, hI⟩
        case round =>
          obtain ⟨j, rfl, hj, rfl, hI⟩ := hrel
          by_cases hlt : j < lo
          · obtain ⟨g, rfl, hg1, hg2⟩ := HBO.out (by omega)
            have hrow := hru.out _ wr hI
            have a1 := ptr_cell hrow j (by rw [← HLO2.out]; exact hlt)
            have CA := hid (fun w h => HADD.out (k + j) (on[j]!) (by omega) (by have := HLS.out j (by rw [← HLO2.out]; exact hlt); rw [HLL.out] at this; exact this.symm) w h)
            have HI := hid hI
            generalize on[j]! = pb at a1 CA
            clear hrow hI HADD
            go_wp2_with (go_at_call 36; refine (CA.out _ HI.out).mono ?_; rintro e w' ⟨rfl, hI2⟩)
            go_roundg (lo - (j + 1))
            case measure => omega
            case rel => exact ⟨j + 1, by go_num, by omega, rfl, hI2⟩
          · obtain rfl : j = lo := by omega
            rw [hlens] at hI
            go_wp2
            go_ret
            exact HFIN.out _ hI

end Go.Proofs.Qxb6601677a
