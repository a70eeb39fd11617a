/-
  The walk of FnNewNeedsIsCountOfVersions (4).
-/
import Derived.Test.Qxb6601677aNeedsOne
namespace Go.Proofs.Qxb6601677a
open Go.ChangeShapes Go.WideShapes Go.ChangeAt Go.RowKit
set_option linter.unusedVariables false

set_option maxHeartbeats 8000000 in
set_option maxRecDepth 20000 in
theorem law4_main (n cap0 cap1 cap2 : Nat) (a0 a1 a2 : Option Addr) (z0 : List Int) (s1 s2 : List ByteArray) (w : World) (w0 : RowI w a0 n cap0 z0) (w1 : RowS w a1 n cap1 s1) (w2 : RowS w a2 n cap2 s2) (hn : n ≤ 4096) :
    Calls Try.prog 4 #[.slice a0 n cap0, .slice a1 n cap1, .slice a2 n cap2] w fun e w' => e = .returned (.bool true) ∧ Below w.heap.size w w' := by
  obtain ⟨i2, gi, gz0, gz1, gz2⟩ := info_parts Try.info23
  have C10 := hid (zzBytes_10 a0 a1 a2 n cap0 n cap1 n cap2 s1 s2 w w0.lenCap w1 w2)
  have C11 := hid (fun h1 h2 => needsBytes_any a0 a1 a2 n cap0 n cap1 n cap2 s1 s2 w hn w0.lenCap hn hn h1 h2 w1 w2)
  have C12 := hid (copyI64_any a0 n cap0 z0 w w0 (by omega))
  have HW1 := hid w1
  have HW2 := hid w2
  have hc0 := w0.lenCap
  have hc1 := w1.read.1
  have hc2 := w2.read.1
  clear w0 w1 w2
  go_enter Try.func4, Try.ntmps4
  go_wp2_with (go_at_call 10; refine C10.out.mono ?_; rintro e w' ⟨⟨r, rfl, hr⟩, hw⟩; obtain rfl := hw.symm; clear hw; have HR := hid hr; clear hr; cases r)
  · go_ret
    exact ⟨rfl, Below.refl _ _⟩
  refine (C11.out (HR.out trivial).1 (HR.out trivial).2).mono ?_
  rintro e w' ⟨⟨t, rfl⟩, hw⟩
  obtain rfl := hw.symm
  clear hw C11 C10 HR
  by_cases ht : t > 1048576
  · go_wp2
    go_ret
    exact ⟨rfl, Below.refl _ _⟩
  go_wp2_with fail
  refine C12.out.mono ?_
  rintro e W1 ⟨b0, rfl, ho0, hb0⟩
  have C13 := hid (copyStrs_any a1 n cap1 s1 W1 (HW1.out.below hb0) (by omega))
  clear C12
  go_wp2_with fail
  refine C13.out.mono ?_
  rintro e W2 ⟨b1, rfl, ho1, hb1⟩
  have C13' := hid (copyStrs_any a2 n cap2 s2 W2 ((HW2.out.below hb0).below hb1) (by omega))
  clear C13
  go_wp2_with fail
  refine C13'.out.mono ?_
  rintro e W3 ⟨b2, rfl, ho2, hb2⟩
  have hs0 := hb0.size
  have hs1 := hb1.size
  have hs2 := hb2.size
  have hbw : Below w.heap.size w W3 := hb0.trans ((hb1.mono hs0).trans (hb2.mono (by omega)))
  obtain ⟨B0, hr0⟩ := cpy_read (w' := W3) ho0 (hb1.trans (hb2.mono hs1))
  obtain ⟨B1, hr1⟩ := cpy_read (w' := W3) ho1 hb2
  obtain ⟨B2, hr2⟩ := cpy_read (w' := W3) ho2 (Below.refl _ _)
  have HR0 := hid hr0
  have HR1 := hid hr1
  have HR2 := hid hr2
  have HBW := hid hbw
  clear hr0 hr1 hr2 C13' HW1 HW2 hb0 hb1 hb2 ho0 ho1 ho2 hbw
  go_wp2_with (first | (at_make; refine wpList_make_full _ rfl (.tmp 60) (.tmp 60) 33 rfl W3.heap.size 23 i2 (.pointer none) 1 Try.underlying33 gi gz0 gz1 _ _ _ _ n rfl rfl rfl rfl (by rw [gz2]; omega) (by unfold maxLen; omega) (by omega) ?_; intro W7 ho7 hg7; have hs7 := hg7.size))
  have hE0 : ∀ f : Nat → Nat, (madeCells #[Value.pointer none] n).toList = ptrR f n 0 := fun f => by rw [toList_madeCells_one]; simp [ptrR, cpyR]
  have hES : W3.heap.size < W7.heap.size := (ho7.lt _ rfl).2
  have hb73 : Below W3.heap.size W3 W7 := (Below.refl _ _).grown hg7 (Nat.le_refl _) (fun k hk => by cases hk)
  have HM4 : Hid (M4 W7 W3.heap.size W3.heap.size n (fun i => z0.getD i 0) (fun i => s1.getD i ByteArray.empty) (fun i => s2.getD i ByteArray.empty) 0 W7) :=
    ⟨⟨rfl, rfl, rfl, rfl, fun _ _ _ => rfl, fun i hi => by omega, fun i hi => by omega⟩, by rw [← hE0]; simpa [Value.cells] using ho7⟩
  have HB73 := hid hb73
  clear hE0 ho7 hg7 hb73
  obtain ⟨base, hbase⟩ : ∃ base, base = W3.heap.size := ⟨_, rfl⟩
  rw [← hbase] at HB73
  obtain ⟨ES, hESd⟩ : ∃ ES, ES = W3.heap.size := ⟨_, rfl⟩
  have HM : Hid (M4 W7 base ES n (fun i => z0.getD i 0) (fun i => s1.getD i ByteArray.empty) (fun i => s2.getD i ByteArray.empty) 0 W7) := by rw [hbase, hESd]; exact HM4
  clear HM4
  have hbE : base ≤ ES := by omega
  have hb1 : W3.heap.size ≤ base := by omega
  have hb2 : base ≤ W3.heap.size := by omega
  have hE1 : ES < W7.heap.size := by omega
  rw [← hESd]
  clear hbase hESd
  go_loopg [9] n (fun g s9 wx => ∃ (k : Nat), s9 = .int .i64 k ∧ k ≤ n ∧ g = n - k ∧ Hid (M4 W7 base ES n (fun i => z0.getD i 0) (fun i => s1.getD i ByteArray.empty) (fun i => s2.getD i ByteArray.empty) k wx))
  case atStart => exact ⟨0, rfl, by omega, rfl, HM⟩
  case round =>
    obtain ⟨k, rfl, hk, rfl, HL⟩ := hrel
    by_cases hlt : k < n
    · obtain ⟨rfl, x1, x2⟩ := HR0.out k hlt
      obtain ⟨rfl, x3, x4⟩ := HR1.out k hlt
      obtain ⟨rfl, x5, x6⟩ := HR2.out k hlt
      have RD7 : Hid (∀ W k1, M4 W7 base ES n (fun i => z0.getD i 0) (fun i => s1.getD i ByteArray.empty) (fun i => s2.getD i ByteArray.empty) k1 W → ∀ b i, b < W3.heap.size → W.cell? ⟨b, i, none⟩ = W3.cell? ⟨b, i, none⟩) := fun W k1 hM b i hb =>
        (World.cell?_of_block (w := W7) (a := ⟨b, i, none⟩) (hM.made.keep b (by omega) (by show ¬ b = ES; omega))).trans (HB73.out.cell (p := ⟨b, i, none⟩) (by show b < base; omega))
      have y0 := (RD7.out _ _ HL.out B0 k (by omega)).trans x1
      have y1 := (RD7.out _ _ HL.out B1 k (by omega)).trans x3
      have y2 := (RD7.out _ _ HL.out B2 k x6).trans x5
      have y3 : wr.cell? ⟨ES, k, none⟩ = some (.pointer none) := by rw [HL.out.es.cellAt k (by omega)]; exact ptrR_nil _ _ _ hlt
      have y4 := HL.out.es.frozenAt k
      obtain ⟨Ek, hEk⟩ : ∃ Ek, Ek = E4 W7.heap.size k := ⟨_, rfl⟩
      have CA := hid (fun W h d0 d1 d2 => one_a (base := base) (n := n) (a := fun i => z0.getD i 0) (r := fun i => s1.getD i ByteArray.empty) (o := fun i => s2.getD i ByteArray.empty) (W := W) h hlt hE1 (z0.getD k 0) (s1.getD k ByteArray.empty) (s2.getD k ByteArray.empty) rfl rfl rfl B0 B1 B2 k (by omega) (by omega) (by omega) d0 d1 d2 Ek hEk)
      have hi1 : (k : Int) < (n : Int) := by omega
      have hn2 : ¬ ES = B0 := by omega
      have hn3 : ¬ ES = B1 := by omega
      have hn4 : ¬ ES = B2 := by omega
      clear x1 x3 x5 hEk RD7
      generalize z0.getD k 0 = x at *
      generalize s1.getD k ByteArray.empty = p at *
      generalize s2.getD k ByteArray.empty = q at *
      go_wp2_with fail
      go_region_held3 (fun w' => w'.cell? ⟨B0, k, none⟩ = some (.int .i64 x) ∧ w'.cell? ⟨B1, k, none⟩ = some (.string p) ∧ w'.cell? ⟨B2, k, none⟩ = some (.string q)) (go_keep) (first | (go_at_call_of 14 (Value.int IntKind.i64 x); refine (CA.out _ HL.out.drew y0 y1 y2).mono ?_; rintro e w1 ⟨rfl, ⟨c0, c1, c2, e0, ef⟩, HF⟩))
      go_wp2
      go_roundg (n - (k + 1))
      case measure => omega
      case rel => exact ⟨k + 1, by go_num, by omega, rfl, HF⟩
    · obtain rfl : n = k := by omega
      have HVF := hid (vf n (fun j => z0.getD j 0) (fun j => kd (z0.getD j 0) (s1.getD j ByteArray.empty) (s2.getD j ByteArray.empty)))
      have C1 := hid (fun V hV => call4 (r0 := fun j => s1.getD j ByteArray.empty) (o0 := fun j => s2.getD j ByteArray.empty) HL.out hE1 hbE hn V hV)
      generalize hV : vers (cA (fun j => z0.getD j 0) (fun j => kd (z0.getD j 0) (s1.getD j ByteArray.empty) (s2.getD j ByteArray.empty)) n) = V at HVF
      have C2 := hid (C1.out V hV.symm)
      have hL := HVF.out.len
      clear C1 hV
      go_wp2_with fail
      refine C2.out.mono ?_
      rintro e W9 ⟨ao, cp, bo, dp, rfl, HRD⟩
      obtain ⟨G, D, LV⟩ := HRD.out.row
      have HLV := hid LV
      have HLN := hid HRD.out.ln
      have HBL : Hid (Below w.heap.size w W9) := HBW.out.trans ((HB73.out.trans HRD.out.bel).mono (by omega))
      have HC : Hid (∀ j, j < n → b0 = some ⟨B0, 0, none⟩ ∧ b1 = some ⟨B1, 0, none⟩ ∧ b2 = some ⟨B2, 0, none⟩ ∧ W9.cell? ⟨B0, j, none⟩ = some (.int .i64 (z0.getD j 0)) ∧ W9.cell? ⟨B1, j, none⟩ = some (.string (s1.getD j ByteArray.empty)) ∧ W9.cell? ⟨B2, j, none⟩ = some (.string (s2.getD j ByteArray.empty))) := fun j hj => by
        obtain ⟨e1, x1, x2⟩ := HR0.out j hj
        obtain ⟨e3, x3, x4⟩ := HR1.out j hj
        obtain ⟨e5, x5, x6⟩ := HR2.out j hj
        have hbb := HB73.out.trans HRD.out.bel
        exact ⟨e1, e3, e5, (hbb.cell (p := ⟨B0, j, none⟩) (by show B0 < base; omega)).trans x1, (hbb.cell (p := ⟨B1, j, none⟩) (by show B1 < base; omega)).trans x3, (hbb.cell (p := ⟨B2, j, none⟩) (by show B2 < base; omega)).trans x5⟩
      clear LV HRD HR0 HR1 HR2 HL HM C2
      go_wp2_with fail
      go_loopg [13] V.length (fun g s13 wx => ∃ (k : Nat), s13 = .int .i64 k ∧ 1 ≤ k ∧ k ≤ V.length + 1 ∧ g = V.length + 1 - k ∧ Hid (wx.heap = W9.heap ∧ wx.os = W9.os ∧ wx.tape = W9.tape ∧ wx.output = W9.output))
      case atStart => exact ⟨1, rfl, by omega, by omega, by omega, rfl, rfl, rfl, rfl⟩
      case round =>
        obtain ⟨k, rfl, hk1, hk, rfl, HA⟩ := hrel
        by_cases hlt : k < V.length
        · have x2 := (HLV.out (k - 1) (by omega)).2.2.1
          obtain ⟨rfl, rfl, x1, _⟩ := HLV.out k hlt
          have hasc := HVF.out.asc (k - 1) (by omega)
          rw [show k - 1 + 1 = k by omega] at hasc
          have y1 := (cell_heap _ HA.out.1).trans x1
          have y2 := (cell_heap _ HA.out.1).trans x2
          have hi1 : (k : Int) < (V.length : Int) := by omega
          have hi2 : ((k : Int) - 1) < (V.length : Int) := by omega
          have hi3 : 0 ≤ ((k : Int) - 1) := by omega
          have hi4 : ((k : Int) - 1).toNat = k - 1 := by omega
          clear x1 x2
          generalize V.getD k 0 = x at *
          generalize V.getD (k - 1) 0 = y at *
          go_wp2_with fail
          go_quiet (fail)
          go_wp2
          go_roundg (V.length + 1 - (k + 1))
          case measure => omega
          case rel => exact ⟨k + 1, by go_num, by omega, by omega, rfl, HA⟩
        · go_wp2_with fail
          clear hk hk1 hlt
          go_loopg [14] n (fun g s14 wx => ∃ (k : Nat), s14 = .int .i64 k ∧ k ≤ n ∧ g = n - k ∧ Hid (wx.heap = W9.heap ∧ wx.os = W9.os ∧ wx.tape = W9.tape ∧ wx.output = W9.output))
          case atStart => exact ⟨0, rfl, by omega, rfl, HA⟩
          case round =>
            obtain ⟨k, rfl, hk, rfl, HB⟩ := hrel
            by_cases hlt : k < n
            · obtain ⟨rfl, rfl, rfl, x1, x2, x3⟩ := HC.out k hlt
              obtain ⟨e1, x4, x5⟩ := HLN.out k hlt
              have y1 := (cell_heap _ HB.out.1).trans x1
              have y2 := (cell_heap _ HB.out.1).trans x2
              have y3 := (cell_heap _ HB.out.1).trans x3
              have y4 := (cell_heap _ HB.out.1).trans x4
              have y5 := (cell_heap _ HB.out.1).trans x5
              have CN := hid (fun W h => need_any e1 _ W ((cell_heap _ h).trans x5))
              have CK := hid (counted_any (z0.getD k 0) (s1.getD k ByteArray.empty) (s2.getD k ByteArray.empty))
              have hi1 : (k : Int) < (n : Int) := by omega
              have HN1 := hid (HVF.out.nd1 k hlt)
              have HN0 := hid (HVF.out.nd0 k hlt)
              clear x1 x2 x3 x4 x5
              generalize ndv V (z0.getD k 0) (kd (z0.getD k 0) (s1.getD k ByteArray.empty) (s2.getD k ByteArray.empty)) = nd at *
              generalize kd (z0.getD k 0) (s1.getD k ByteArray.empty) (s2.getD k ByteArray.empty) = kk at *
              cases kk with
              | false =>
                obtain rfl := HN0.out rfl
                generalize z0.getD k 0 = x at *
                generalize s1.getD k ByteArray.empty = p at *
                generalize s2.getD k ByteArray.empty = q at *
                go_wp2_with (go_at_call 16; refine (CN.out _ HB.out.1).mono ?_; rintro e w' ⟨rfl, hw⟩; obtain rfl := hw.symm; clear hw)
                go_quiet ((go_at_call 17; exact Calls.quiet_of_same (CK.out _)))
                go_wp2
                go_roundg (n - (k + 1))
                case measure => omega
                case rel => exact ⟨k + 1, by go_num, by omega, rfl, HB⟩
              | true =>
                obtain ⟨ix, rfl, hix, hgx⟩ := HN1.out rfl
                obtain ⟨rfl, rfl, x6, _⟩ := HLV.out ix hix
                rw [hgx] at x6
                have y6 := (cell_heap _ HB.out.1).trans x6
                have hi2 : (ix : Int) < (V.length : Int) := by omega
                clear x6 hgx
                generalize z0.getD k 0 = x at *
                generalize s1.getD k ByteArray.empty = p at *
                generalize s2.getD k ByteArray.empty = q at *
                go_wp2_with (go_at_call 16; refine (CN.out _ HB.out.1).mono ?_; rintro e w' ⟨rfl, hw⟩; obtain rfl := hw.symm; clear hw)
                go_quiet ((go_at_call 17; exact Calls.quiet_of_same (CK.out _)))
                go_wp2_with fail
                obtain ⟨wq, hwq⟩ : ∃ wq, wq = wr.drewN nq := ⟨_, rfl⟩
                have HB2 : Hid (wq.heap = W9.heap ∧ wq.os = W9.os ∧ wq.tape = W9.tape ∧ wq.output = W9.output) := by rw [hwq]; exact HB.out
                have f1 : wq.cell? ⟨B0, k, none⟩ = some (.int .i64 x) := by rw [hwq]; exact y1
                have f6 : wq.cell? ⟨G, ix, none⟩ = some (.int .i64 x) := by rw [hwq]; exact y6
                rw [← hwq]
                clear hwq y1 y2 y3 y4 y5 y6 CN CK HB
                have hg1 : decide ((ix : Int) < 0) = false := by simp
                have hg2 : decide ((V.length : Int) ≤ (ix : Int)) = false := by simp; omega
                go_quiet (fail)
                go_wp2
                go_roundg (n - (k + 1))
                case measure => omega
                case rel => exact ⟨k + 1, by go_num, by omega, rfl, HB2⟩
            · obtain rfl : n = k := by omega
              go_wp2_with fail
              clear hk hlt HA
              go_loopg [16] V.length (fun g s16 wx => ∃ (k : Nat), s16 = .int .i64 k ∧ k ≤ V.length ∧ g = V.length - k ∧ Hid (wx.heap = W9.heap ∧ wx.os = W9.os ∧ wx.tape = W9.tape ∧ wx.output = W9.output))
              case atStart => exact ⟨0, rfl, by omega, rfl, HB⟩
              case round =>
                obtain ⟨i, rfl, hi, rfl, HD⟩ := hrel
                by_cases hlt : i < V.length
                · obtain ⟨rfl, rfl, x1, x2⟩ := HLV.out i hlt
                  have hpos := HVF.out.pos i hlt
                  have hi1 : (i : Int) < (V.length : Int) := by omega
                  generalize V.getD i 0 = x at *
                  obtain ⟨Cn, hCn⟩ : ∃ Cn : Nat → Nat, ∀ k, Cn k = (cA (fun j => z0.getD j 0) (fun j => kd (z0.getD j 0) (s1.getD j ByteArray.empty) (s2.getD j ByteArray.empty)) k).count x := ⟨_, fun _ => rfl⟩
                  have HCy : Hid (∀ k, kd (z0.getD k 0) (s1.getD k ByteArray.empty) (s2.getD k ByteArray.empty) = true → z0.getD k 0 = x → Cn k + 1 = Cn (k + 1)) := fun k h1 h2 => by rw [hCn, hCn]; exact (cA_count_yes _ _ k x h1 h2).symm
                  have HCo : Hid (∀ k, (kd (z0.getD k 0) (s1.getD k ByteArray.empty) (s2.getD k ByteArray.empty) = false ∨ ¬ z0.getD k 0 = x) → Cn k = Cn (k + 1)) := fun k h1 => by rw [hCn, hCn]; exact (cA_count_no _ _ k x h1).symm
                  have HCl : Hid (∀ k, Cn k ≤ k) := fun k => by rw [hCn]; exact cA_count_le _ _ _ _
                  have HC0 : Hid (0 = Cn 0) := by show _ = _; rw [hCn]; rfl
                  rw [← hCn] at x2 hpos
                  clear hCn
                  go_wp2_with fail
                  go_loopg [17, 18] n (fun g s17 s18 wx => ∃ (k c : Nat), s17 = .int .i64 c ∧ s18 = .int .i64 k ∧ k ≤ n ∧ g = n - k ∧ Hid (c = Cn k) ∧ Hid (wx.heap = W9.heap ∧ wx.os = W9.os ∧ wx.tape = W9.tape ∧ wx.output = W9.output))
                  case atStart => exact ⟨0, 0, rfl, rfl, by omega, rfl, HC0, HD⟩
                  case round =>
                    obtain ⟨k, c, rfl, rfl, hk, rfl, HCT, HE⟩ := hrel
                    by_cases hlt2 : k < n
                    · obtain ⟨rfl, rfl, rfl, u1, u2, u3⟩ := HC.out k hlt2
                      have y1 := (cell_heap _ HE.out.1).trans u1
                      have y2 := (cell_heap _ HE.out.1).trans u2
                      have y3 := (cell_heap _ HE.out.1).trans u3
                      have y4 := (cell_heap _ HE.out.1).trans x1
                      have CK := hid (counted_any (z0.getD k 0) (s1.getD k ByteArray.empty) (s2.getD k ByteArray.empty))
                      have hi2 : (k : Int) < (n : Int) := by omega
                      have hck : c ≤ k := by rw [HCT.out]; exact HCl.out k
                      have HY := hid (HCy.out k)
                      have HN := hid (HCo.out k)
                      rw [← HCT.out] at HY HN
                      clear u1 u2 u3
                      generalize kd (z0.getD k 0) (s1.getD k ByteArray.empty) (s2.getD k ByteArray.empty) = kk at *
                      generalize z0.getD k 0 = y at *
                      generalize s1.getD k ByteArray.empty = p at *
                      generalize s2.getD k ByteArray.empty = q at *
                      cases kk with
                      | false =>
                        have HN1 : Hid (c = Cn (k + 1)) := HN.out (.inl rfl)
                        clear HY HN
                        go_wp2_with fail
                        go_quiet ((go_at_call 17; exact Calls.quiet_of_same (CK.out _)))
                        go_wp2
                        go_roundg (n - (k + 1))
                        case measure => omega
                        case rel => exact ⟨k + 1, c, rfl, by go_num, by omega, rfl, HN1, HE⟩
                      | true =>
                        by_cases hyx : y = x
                        · have HN1 : Hid (c + 1 = Cn (k + 1)) := HY.out rfl hyx
                          clear HY HN HCy HCo
                          subst hyx
                          go_wp2_with fail
                          go_quiet ((go_at_call 17; exact Calls.quiet_of_same (CK.out _)))
                          go_wp2
                          go_roundg (n - (k + 1))
                          case measure => omega
                          case rel => exact ⟨k + 1, c + 1, by go_num, by go_num, by omega, rfl, HN1, HE⟩
                        · have HN1 : Hid (c = Cn (k + 1)) := HN.out (.inr hyx)
                          have hd : decide (y = x) = false := by simp [hyx]
                          clear HY HN
                          go_wp2_with fail
                          go_quiet ((go_at_call 17; exact Calls.quiet_of_same (CK.out _)))
                          go_wp2
                          go_roundg (n - (k + 1))
                          case measure => omega
                          case rel => exact ⟨k + 1, c, rfl, by go_num, by omega, rfl, HN1, HE⟩
                    · obtain rfl : n = k := by omega
                      have hcn := HCl.out n
                      rw [← HCT.out] at hpos hcn x2
                      have y2 := (cell_heap _ HE.out.1).trans x2
                      have hc0 : ¬ (c : Int) = 0 := by omega
                      clear HCT x1 x2
                      go_wp2
                      go_roundg (V.length - (i + 1))
                      case measure => omega
                      case rel => exact ⟨i + 1, by go_num, by omega, rfl, HE⟩
                · go_wp2_with fail
                  clear hi hlt
                  go_loopg [19, 20] 0 (fun g s19 s20 wx => s19 = .int .i64 (V.length : Nat) ∧ s20 = .int .i64 0 ∧ Hid (wx.heap = W9.heap ∧ wx.os = W9.os ∧ wx.tape = W9.tape ∧ wx.output = W9.output))
                  case atStart => exact ⟨rfl, rfl, HD⟩
                  case round =>
                    obtain ⟨rfl, rfl, HE⟩ := hrel
                    have HFIN : Hid (Below w.heap.size w wr) := ⟨HE.out.2.1.trans HBL.out.os, HE.out.2.2.1.trans HBL.out.tape, HE.out.2.2.2.trans HBL.out.output, by rw [HE.out.1]; exact HBL.out.size, fun k hk => by rw [HE.out.1]; exact HBL.out.block k hk⟩
                    by_cases h0 : 0 < V.length
                    · obtain ⟨rfl, rfl, x1, x2⟩ := HLV.out 0 h0
                      have hpos := HVF.out.pos 0 h0
                      have y2 := (cell_heap _ HE.out.1).trans x2
                      have h0' : (0 : Int) < (V.length : Int) := by omega
                      clear x1 x2
                      generalize V.getD 0 0 = x at *
                      generalize (cA (fun j => z0.getD j 0) (fun j => kd (z0.getD j 0) (s1.getD j ByteArray.empty) (s2.getD j ByteArray.empty)) n).count x = c at *
                      have hc0 : ¬ (c : Int) = 0 := by omega
                      go_wp2
                      go_ret
                      exact ⟨rfl, HFIN.out⟩
                    · have h0' : ¬ (0 : Int) < (V.length : Int) := by omega
                      have h1' : (V.length : Int) = 0 := by omega
                      clear h0
                      generalize V.length = L at *
                      go_wp2
                      go_ret
                      exact ⟨rfl, HFIN.out⟩

end Go.Proofs.Qxb6601677a
