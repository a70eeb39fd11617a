/-
  The walk of FnNewNeedsOrderFree (5).
-/
import Derived.Test.Qxb6601677aNeedsTwo2
namespace Go.Proofs.Qxb6601677a
open Go.ChangeShapes Go.WideShapes Go.ChangeAt Go.RowKit
set_option linter.unusedVariables false

theorem Below.rowN {w w' : World} {base : Nat} {e : TypeId} {size : Nat} {v : Value} {n : Nat} {xs : List Value} (h : Below w.heap.size w w') (hv : w.ownsRow base e size v n xs) : w'.ownsRow base e size v n xs :=
  row_block hv fun b hb => h.block b (hv.lt b hb).2

theorem RowS.below {w w' : World} {a : Option Addr} {len cap : Nat} {ss : List ByteArray} (h : RowS w a len cap ss) (hb : Below w.heap.size w w') : RowS w' a len cap ss := by
  rcases h with h | ⟨x, h1, h2, h3, h4, h5, h6⟩
  · exact .inl h
  · exact .inr ⟨x, h1, h2, h3, h4, fun i hi => (hb.cell (World.block_lt_of_cell? w _ (h5 i hi))).trans (h5 i hi), h6⟩

theorem RowI.lenCap {w : World} {a : Option Addr} {len cap : Nat} {zs : List Int} (h : RowI w a len cap zs) : len ≤ cap := by
  rcases h with ⟨_, h, h', _⟩ | ⟨x, _, h, _⟩
  · omega
  · exact h

/-- A copied row, as a loop reads it. -/
theorem cpy_read {w w' : World} {base n : Nat} {e : TypeId} {bo : Option Addr} {f : Nat → Value} {z : Value} (hv : w.ownsRow base e 1 (.slice bo n n) n (cpyR f z n n)) (hb : Below w.heap.size w w') : ∃ B, ∀ j, j < n → bo = some ⟨B, 0, none⟩ ∧ w'.cell? ⟨B, j, none⟩ = some (f j) ∧ B < w.heap.size := by
  obtain ⟨B, h⟩ := row_read hv
  refine ⟨B, fun j hj => ?_⟩
  obtain ⟨h1, h2, h3, h4⟩ := h j hj
  exact ⟨h1, (hb.cell (p := ⟨B, j, none⟩) h3).trans (h2.trans (cpyR_get _ _ _ _ hj)), h3⟩

set_option maxHeartbeats 8000000 in
set_option maxRecDepth 20000 in
theorem law5_main (n cap0 cap1 cap2 : Nat) (a0 a1 a2 : Option Addr) (z0 : List Int) (s1 s2 : List ByteArray) (w : World) (w0 : RowI w a0 n cap0 z0) (w1 : RowS w a1 n cap1 s1) (w2 : RowS w a2 n cap2 s2) (hn : n ≤ 4096) :
    Calls Try.prog 5 #[.slice a0 n cap0, .slice a1 n cap1, .slice a2 n cap2] w fun e w' => e = .returned (.bool true) ∧ Below w.heap.size w w' := by
  obtain ⟨i2, gi, gz0, gz1, gz2⟩ := info_parts Try.info23
  have C18 := hid (zzBytes_18 a0 a1 a2 n cap0 n cap1 n cap2 s1 s2 w w0.lenCap w1 w2)
  have C11 := hid (fun h1 h2 => needsBytes_any a0 a1 a2 n cap0 n cap1 n cap2 s1 s2 w hn w0.lenCap hn hn h1 h2 w1 w2)
  have C12 := hid (copyI64_any a0 n cap0 z0 w w0 (by omega))
  have HW1 := hid w1
  have HW2 := hid w2
  have hc0 := w0.lenCap
  have hc1 := w1.read.1
  have hc2 := w2.read.1
  clear w0 w1 w2
  go_enter Try.func5, Try.ntmps5
  go_wp2_with (go_at_call 18; refine C18.out.mono ?_; rintro e w' ⟨⟨r, rfl, hr⟩, hw⟩; obtain rfl := hw.symm; clear hw; have HR := hid hr; clear hr; cases r)
  · go_ret
    exact ⟨rfl, Below.refl _ _⟩
  refine (C11.out (HR.out trivial).1 (HR.out trivial).2).mono ?_
  rintro e w' ⟨⟨t, rfl⟩, hw⟩
  obtain rfl := hw.symm
  clear hw C11 C18 HR
  by_cases ht : t > 1048576
  · go_wp2
    go_ret
    exact ⟨rfl, Below.refl _ _⟩
  go_wp2_with fail
  refine C12.out.mono ?_
  rintro e W1 ⟨b0, rfl, ho0, hb0⟩
  have C13 := hid (copyStrs_any a1 n cap1 s1 W1 (HW1.out.below hb0) (by omega))
  clear C12
  go_wp2_with fail
  refine C13.out.mono ?_
  rintro e W2 ⟨b1, rfl, ho1, hb1⟩
  have C13' := hid (copyStrs_any a2 n cap2 s2 W2 ((HW2.out.below hb0).below hb1) (by omega))
  clear C13
  go_wp2_with fail
  refine C13'.out.mono ?_
  rintro e W3 ⟨b2, rfl, ho2, hb2⟩
  have hs0 := hb0.size
  have hs1 := hb1.size
  have hs2 := hb2.size
  have hbw : Below w.heap.size w W3 := hb0.trans ((hb1.mono hs0).trans (hb2.mono (by omega)))
  obtain ⟨B0, hr0⟩ := cpy_read (w' := W3) ho0 (hb1.trans (hb2.mono hs1))
  obtain ⟨B1, hr1⟩ := cpy_read (w' := W3) ho1 hb2
  obtain ⟨B2, hr2⟩ := cpy_read (w' := W3) ho2 (Below.refl _ _)
  have HR0 := hid hr0
  have HR1 := hid hr1
  have HR2 := hid hr2
  have HBW := hid hbw
  clear hr0 hr1 hr2 C13' HW1 HW2 hb0 hb1 hb2 ho0 ho1 ho2 hbw
  go_wp2_with (first | (at_make; refine wpList_make_full _ rfl (.tmp 60) (.tmp 60) 33 rfl W3.heap.size 23 i2 (.pointer none) 1 Try.underlying33 gi gz0 gz1 _ _ _ _ n rfl rfl rfl rfl (by rw [gz2]; omega) (by unfold maxLen; omega) (by omega) ?_; intro W6 ho6 hg6; have hs6 := hg6.size) | (at_make; refine wpList_make_full _ rfl (.tmp 62) (.tmp 62) 33 rfl W3.heap.size 23 i2 (.pointer none) 1 Try.underlying33 gi gz0 gz1 _ _ _ _ n rfl rfl rfl rfl (by rw [gz2]; omega) (by unfold maxLen; omega) (by omega) ?_; intro W7 ho7 hg7; have hs7 := hg7.size))
  have hE0 : ∀ f : Nat → Nat, (madeCells #[Value.pointer none] n).toList = ptrR f n 0 := fun f => by rw [toList_madeCells_one]; simp [ptrR, cpyR]
  have hES : W3.heap.size < W6.heap.size := (ho6.lt _ rfl).2
  have hFS : W6.heap.size < W7.heap.size := (ho7.lt _ rfl).2
  have hb6 : Below W3.heap.size W3 W6 := (Below.refl _ _).grown hg6 (Nat.le_refl _) (fun k hk => by cases hk)
  have hb7 : Below W6.heap.size W6 W7 := (Below.refl _ _).grown hg7 (Nat.le_refl _) (fun k hk => by cases hk)
  have hb73 : Below W3.heap.size W3 W7 := hb6.trans (hb7.mono (by omega))
  have HM5 : Hid (M5 W7 W3.heap.size W3.heap.size W6.heap.size n (fun i => z0.getD (idx5 n i) 0) (fun i => s1.getD (idx5 n i) ByteArray.empty) (fun i => s2.getD (idx5 n i) ByteArray.empty) 0 0 W7) :=
    ⟨⟨rfl, rfl, rfl, rfl, fun _ _ _ => rfl, fun i hi => by omega, fun i hi => by omega⟩, by rw [← hE0]; exact Below.rowN hb7 (by simpa [Value.cells] using ho6), by rw [← hE0]; simpa [Value.cells] using ho7⟩
  have HB73 := hid hb73
  have hE : W3.heap.size ≤ W3.heap.size := Nat.le_refl _
  have hF : W3.heap.size ≤ W6.heap.size := by omega
  clear hE0 ho6 ho7 hg6 hg7 hb6 hb7 hb73
  obtain ⟨base, hbase⟩ : ∃ base, base = W3.heap.size := ⟨_, rfl⟩
  rw [← hbase] at HB73
  have HM : Hid (M5 W7 base W3.heap.size W6.heap.size n (fun i => z0.getD (idx5 n i) 0) (fun i => s1.getD (idx5 n i) ByteArray.empty) (fun i => s2.getD (idx5 n i) ByteArray.empty) 0 0 W7) := by rw [hbase]; exact HM5
  clear HM5
  have hbE : base ≤ W3.heap.size := by omega
  have hbF : base ≤ W6.heap.size := by omega
  have hb1 : W3.heap.size ≤ base := by omega
  have hb2 : base ≤ W3.heap.size := by omega
  clear hbase
  obtain ⟨ES, hESd⟩ : ∃ ES, ES = W3.heap.size := ⟨_, rfl⟩
  obtain ⟨FS, hFSd⟩ : ∃ FS, FS = W6.heap.size := ⟨_, rfl⟩
  rw [← hESd, ← hFSd] at HM hES
  rw [← hFSd] at hFS
  rw [← hESd] at hbE
  rw [← hFSd] at hbF
  rw [← hESd, ← hFSd]
  clear hESd hFSd
  go_loopg [10] n (fun g s10 wx => ∃ (k : Nat), s10 = .int .i64 k ∧ k ≤ n ∧ g = n - k ∧ Hid (M5 W7 base ES FS n (fun i => z0.getD (idx5 n i) 0) (fun i => s1.getD (idx5 n i) ByteArray.empty) (fun i => s2.getD (idx5 n i) ByteArray.empty) k k wx))
  case atStart => exact ⟨0, rfl, by omega, rfl, HM⟩
  case round =>
    obtain ⟨k, rfl, hk, rfl, HL⟩ := hrel
    by_cases hlt : k < n
    · obtain ⟨rfl, x1, x2⟩ := HR0.out k hlt
      obtain ⟨rfl, x3, x4⟩ := HR1.out k hlt
      obtain ⟨rfl, x5, x6⟩ := HR2.out k hlt
      have lE : ES < W7.heap.size := by omega
      have lF : FS < W7.heap.size := by omega
      have lb : base ≤ W7.heap.size := by omega
      have hn1 : ES ≠ FS := by omega
      have RD7 : Hid (∀ W k1 k2, M5 W7 base ES FS n (fun i => z0.getD (idx5 n i) 0) (fun i => s1.getD (idx5 n i) ByteArray.empty) (fun i => s2.getD (idx5 n i) ByteArray.empty) k1 k2 W → ∀ b i, b < W3.heap.size → W.cell? ⟨b, i, none⟩ = W3.cell? ⟨b, i, none⟩) := fun W k1 k2 hM b i hb =>
        (World.cell?_of_block (w := W7) (a := ⟨b, i, none⟩) (hM.made.keep b (by omega) (by rintro (rfl | rfl) <;> omega))).trans (HB73.out.cell (p := ⟨b, i, none⟩) (by show b < base; omega))
      have l0 : B0 < W3.heap.size := by omega
      have l1 : B1 < W3.heap.size := by omega
      have y0 := (RD7.out _ _ _ HL.out B0 k l0).trans x1
      have y1 := (RD7.out _ _ _ HL.out B1 k l1).trans x3
      have y2 := (RD7.out _ _ _ HL.out B2 k x6).trans x5
      have y3 : wr.cell? ⟨ES, k, none⟩ = some (.pointer none) := by rw [HL.out.es.cellAt k (by omega)]; exact ptrR_nil _ _ _ hlt
      have y4 := HL.out.es.frozenAt k
      obtain ⟨Ek, hEk⟩ : ∃ Ek, Ek = E1 W7.heap.size k := ⟨_, rfl⟩
      have CA := hid (fun W h d0 d1 d2 => half_a (base := base) (n := n) (a := fun i => z0.getD (idx5 n i) 0) (r := fun i => s1.getD (idx5 n i) ByteArray.empty) (o := fun i => s2.getD (idx5 n i) ByteArray.empty) (W := W) h hlt lE lF hn1 (z0.getD k 0) (s1.getD k ByteArray.empty) (s2.getD k ByteArray.empty) (by simp only [idx5_even]) (by simp only [idx5_even]) (by simp only [idx5_even]) B0 B1 B2 k (by omega) (by omega) (by omega) d0 d1 d2 Ek hEk)
      have hi1 : (k : Int) < (n : Int) := by omega
      have hn2 : ¬ ES = B0 := by omega
      have hn3 : ¬ ES = B1 := by omega
      have hn4 : ¬ ES = B2 := by omega
      clear x1 x3 x5 hEk
      generalize z0.getD k 0 = x at *
      generalize s1.getD k ByteArray.empty = p at *
      generalize s2.getD k ByteArray.empty = q at *
      go_wp2_with fail
      go_region_held3 (fun w' => w'.cell? ⟨B0, k, none⟩ = some (.int .i64 x) ∧ w'.cell? ⟨B1, k, none⟩ = some (.string p) ∧ w'.cell? ⟨B2, k, none⟩ = some (.string q)) (go_keep) (first | (go_at_call_of 14 (Value.int IntKind.i64 x); refine (CA.out _ HL.out.drew y0 y1 y2).mono ?_; rintro e w1 ⟨rfl, ⟨c0, c1, c2, e0, ef⟩, HF⟩))
      go_wp2_with fail
      obtain ⟨wb, hwb⟩ : ∃ wb, wb = w1.setCell ⟨ES, k, none⟩ (.pointer (some ⟨Ek, 0, none⟩)) := ⟨_, rfl⟩
      rw [← hwb] at HF ⊢
      rw [show ((n : Int) - 1 - (k : Int)) = ((n - 1 - k : Nat) : Int) by omega]
      obtain ⟨m, hm, hmn⟩ : ∃ m, n - 1 - k = m ∧ m < n := ⟨_, rfl, by omega⟩
      rw [hm]
      obtain ⟨_, u1, _⟩ := HR0.out m hmn
      obtain ⟨_, u3, _⟩ := HR1.out m hmn
      obtain ⟨_, u5, _⟩ := HR2.out m hmn
      have v0 := (RD7.out _ _ _ HF.out B0 m l0).trans u1
      have v1 := (RD7.out _ _ _ HF.out B1 m l1).trans u3
      have v2 := (RD7.out _ _ _ HF.out B2 m x6).trans u5
      have v3 : wb.cell? ⟨FS, k, none⟩ = some (.pointer none) := by rw [HF.out.fs.cellAt k (by omega)]; exact ptrR_nil _ _ _ hlt
      have v4 := HF.out.fs.frozenAt k
      obtain ⟨Fk, hFk⟩ : ∃ Fk, Fk = E2 W7.heap.size k := ⟨_, rfl⟩
      have CB := hid (fun W h d0 d1 d2 => half_b (base := base) (n := n) (a := fun i => z0.getD (idx5 n i) 0) (r := fun i => s1.getD (idx5 n i) ByteArray.empty) (o := fun i => s2.getD (idx5 n i) ByteArray.empty) (W := W) h hlt lE lF hn1 (z0.getD m 0) (s1.getD m ByteArray.empty) (s2.getD m ByteArray.empty) (by simp only [idx5_odd, hm]) (by simp only [idx5_odd, hm]) (by simp only [idx5_odd, hm]) B0 B1 B2 m (by omega) (by omega) (by omega) d0 d1 d2 Fk hFk)
      have hi2 : (m : Int) < (n : Int) := by omega
      have hn5 : ¬ FS = B0 := by omega
      have hn6 : ¬ FS = B1 := by omega
      have hn7 : ¬ FS = B2 := by omega
      clear u1 u3 u5 hFk hm hwb c0 c1 c2 e0 ef y0 y1 y2 y3 y4 CA HL
      generalize z0.getD m 0 = x' at *
      generalize s1.getD m ByteArray.empty = p' at *
      generalize s2.getD m ByteArray.empty = q' at *
      go_region_held3 (fun w' => w'.cell? ⟨B0, m, none⟩ = some (.int .i64 x') ∧ w'.cell? ⟨B1, m, none⟩ = some (.string p') ∧ w'.cell? ⟨B2, m, none⟩ = some (.string q')) (go_keep) (first | (go_at_call_of 14 (Value.int IntKind.i64 x'); refine (CB.out _ HF.out.drew v0 v1 v2).mono ?_; rintro e w4 ⟨rfl, ⟨f0, f1, f2, g0, gf⟩, HG⟩))
      go_wp2
      go_roundg (n - (k + 1))
      case measure => omega
      case rel => exact ⟨k + 1, by go_num, by omega, rfl, HG⟩
    · obtain rfl : n = k := by omega
      have hL : (vers (cA (fun j => z0.getD j 0) (fun j => kd (z0.getD j 0) (s1.getD j ByteArray.empty) (s2.getD j ByteArray.empty)) n)).length ≤ n := Nat.le_trans (vers_len _) (cA_len _ _ _)
      have C1 := hid (call1 (at0 := fun j => z0.getD j 0) (r0 := fun j => s1.getD j ByteArray.empty) (o0 := fun j => s2.getD j ByteArray.empty) HL.out (by omega) hn)
      have C2 := hid (fun V hV ao bo cp dp w9 h9 => call2 (at0 := fun j => z0.getD j 0) (r0 := fun j => s1.getD j ByteArray.empty) (o0 := fun j => s2.getD j ByteArray.empty) HL.out (by omega) (by omega) hbE hbF hn V hV ao bo cp dp w9 h9)
      generalize hV : vers (cA (fun j => z0.getD j 0) (fun j => kd (z0.getD j 0) (s1.getD j ByteArray.empty) (s2.getD j ByteArray.empty)) n) = V at C1 hL
      have C2' := hid (C2.out V hV.symm)
      clear C2 hV
      go_wp2_with fail
      refine C1.out.mono ?_
      rintro e W9 ⟨ao, cp, bo, dp, rfl, H9⟩
      have C3 := hid (C2'.out ao bo cp dp W9 H9.out)
      clear C1 C2' H9
      go_wp2_with fail
      refine C3.out.mono ?_
      rintro e W10 ⟨ao2, cp2, bo2, dp2, rfl, HRD⟩
      clear C3
      generalize V.length = L at *
      obtain ⟨G1, G2, LV⟩ := HRD.out.lv
      obtain ⟨D1, D2, LC⟩ := HRD.out.lc
      have HLV := hid LV
      have HLC := hid LC
      have HLN := hid HRD.out.ln
      have HBL : Hid (Below w.heap.size w W10) := HBW.out.trans ((HB73.out.trans HRD.out.bel).mono (by omega))
      clear LV LC HRD HR0 HR1 HR2 HL HM
      go_wp2_with fail
      go_loopg [18] L (fun g s18 wx => ∃ (k : Nat), s18 = .int .i64 k ∧ k ≤ L ∧ g = L - k ∧ Hid (wx.heap = W10.heap ∧ wx.os = W10.os ∧ wx.tape = W10.tape ∧ wx.output = W10.output))
      case atStart => exact ⟨0, rfl, by omega, rfl, rfl, rfl, rfl, rfl⟩
      case round =>
        obtain ⟨k, rfl, hk, rfl, HA⟩ := hrel
        by_cases hlt : k < L
        · obtain ⟨rfl, rfl, x, x1, x2⟩ := HLV.out k hlt
          have y1 := (cell_heap _ HA.out.1).trans x1
          have y2 := (cell_heap _ HA.out.1).trans x2
          have hi1 : (k : Int) < (L : Int) := by omega
          clear x1 x2
          go_wp2_with fail
          go_quiet (fail)
          go_wp2
          go_roundg (L - (k + 1))
          case measure => omega
          case rel => exact ⟨k + 1, by go_num, by omega, rfl, HA⟩
        · obtain rfl : L = k := by omega
          go_wp2_with fail
          go_loopg [19] L (fun g s19 wx => ∃ (k : Nat), s19 = .int .i64 k ∧ k ≤ L ∧ g = L - k ∧ Hid (wx.heap = W10.heap ∧ wx.os = W10.os ∧ wx.tape = W10.tape ∧ wx.output = W10.output))
          case atStart => exact ⟨0, rfl, by omega, rfl, HA⟩
          case round =>
            obtain ⟨k, rfl, hk, rfl, HB⟩ := hrel
            by_cases hlt : k < L
            · obtain ⟨rfl, rfl, x, x1, x2⟩ := HLC.out k hlt
              have y1 := (cell_heap _ HB.out.1).trans x1
              have y2 := (cell_heap _ HB.out.1).trans x2
              have hi1 : (k : Int) < (L : Int) := by omega
              clear x1 x2
              go_wp2_with fail
              go_quiet (fail)
              go_wp2
              go_roundg (L - (k + 1))
              case measure => omega
              case rel => exact ⟨k + 1, by go_num, by omega, rfl, HB⟩
            · obtain rfl : L = k := by omega
              go_wp2_with fail
              go_loopg [20] n (fun g s20 wx => ∃ (k : Nat), s20 = .int .i64 k ∧ k ≤ n ∧ g = n - k ∧ Hid (wx.heap = W10.heap ∧ wx.os = W10.os ∧ wx.tape = W10.tape ∧ wx.output = W10.output))
              case atStart => exact ⟨0, rfl, by omega, rfl, HB⟩
              case round =>
                obtain ⟨k, rfl, hk, rfl, HC⟩ := hrel
                by_cases hlt : k < n
                · obtain ⟨e1, e2, x, x1, x2, x3, x4⟩ := HLN.out k hlt
                  have y1 := (cell_heap _ HC.out.1).trans x1
                  have y2 := (cell_heap _ HC.out.1).trans x2
                  have y3 : Hid (∀ W : World, W.heap = W10.heap → W.cell? ⟨e1, 8, none⟩ = some (.int .i64 x)) := fun W h => (cell_heap _ h).trans x3
                  have y4 : Hid (∀ W : World, W.heap = W10.heap → W.cell? ⟨e2, 8, none⟩ = some (.int .i64 x)) := fun W h => (cell_heap _ h).trans x4
                  have hi1 : (k : Int) < (n : Int) := by omega
                  have hi2 : ((n : Int) - 1 - k) < (n : Int) := by omega
                  have hi3 : 0 ≤ ((n : Int) - 1 - k) := by omega
                  have hi4 : ((n : Int) - 1 - k).toNat = n - 1 - k := by omega
                  clear x1 x2 x3 x4
                  go_wp2_with fail
                  go_quiet ((first | (go_at_call_of 16 (Value.pointer (some ⟨e1, 0, none⟩)); exact Calls.quiet_of_same (need_any e1 _ _ (y3.out _ HC.out.1))) | (go_at_call_of 16 (Value.pointer (some ⟨e2, 0, none⟩)); exact Calls.quiet_of_same (need_any e2 _ _ (y4.out _ HC.out.1)))))
                  go_wp2
                  go_roundg (n - (k + 1))
                  case measure => omega
                  case rel => exact ⟨k + 1, by go_num, by omega, rfl, HC⟩
                · obtain rfl : n = k := by omega
                  go_wp2
                  go_ret
                  exact ⟨rfl, HC.out.2.1.trans HBL.out.os, HC.out.2.2.1.trans HBL.out.tape, HC.out.2.2.2.trans HBL.out.output, by rw [HC.out.1]; exact HBL.out.size, fun k hk => by rw [HC.out.1]; exact HBL.out.block k hk⟩

end Go.Proofs.Qxb6601677a
