/-
  The walk of newNeeds (29).
-/
import Derived.Test.Qxb6601677aNeedsInv
import Derived.Deep.RegionLaw
namespace Go.Proofs.Qxb6601677a
open Go.ChangeShapes Go.WideShapes Go.ChangeAt Go.RowKit
set_option linter.unusedVariables false

theorem int_one (c : Int) : ∀ u ∈ [Value.int .i64 c], u.oneCell' = true := by
  intro u hu
  simp at hu
  subst hu
  rfl

theorem one_new_drew (w : World) (x : Value) (t : TypeId) : ∀ j u, [x][j]? = some u → (w.alloc (.cells #[x] t)).drew.cell? ((⟨w.heap.size, 0, none⟩ : Addr).add j) = some u := one_new w x t

theorem N2.drew {W : World} {M n : Nat} {E : Nat → Nat} {at' : Nat → Int} {K : Nat → Bool} {V : List Int} {vV vC : Value} {k : Nat} {w : World} (h : N2 W M n E at' K V vV vC k w) : N2 W M n E at' K V vV vC k w.drew := h.same rfl rfl rfl rfl

set_option maxHeartbeats 4000000 in
set_option maxRecDepth 20000 in
theorem newNeeds_any (S n : Nat) (E P : Nat → Nat) (at' : Nat → Int) (rs os : Nat → ByteArray) (W : World) (hn : n ≤ 4096) (h : NPre W S n E P at' rs os) :
    Calls Try.prog 29 #[.slice (some ⟨S, 0, none⟩) n n] W fun e w' => e = .returned (.pointer (some ⟨W.heap.size, 0, none⟩)) ∧ ∃ vV vC, N2 W W.heap.size n E at' (fun j => kd (at' j) (rs j) (os j)) (vers (cA at' (fun j => kd (at' j) (rs j) (os j)) n)) vV vC n w' := by
  obtain ⟨i1, hi, hz0, hz1, hz2⟩ := info_parts Try.info2
  obtain ⟨i2, gi, gz0, gz1, gz2⟩ := info_parts Try.info3n
  have HP := hid h
  clear h
  go_enter Try.func29, Try.ntmps29
  go_upto_block 0 with fail
  go_cut [] (fun wx => ∃ v, Hid (NBox wx W.heap.size v (.slice none 0 0)) ∧ Hid (wx.ownsRow W.heap.size 2 1 v (cA at' (fun j => kd (at' j) (rs j) (os j)) n).length ((cA at' (fun j => kd (at' j) (rs j) (os j)) n).map (Value.int .i64))) ∧ Hid (Below W.heap.size W wx))
  case first =>
    go_wp2_with fail
    go_loopg [12] n (fun g s12 wx => ∃ (k : Nat) (v : Value), s12 = .int .i64 k ∧ k ≤ n ∧ g = n - k ∧ Hid (NBox wx W.heap.size v (.slice none 0 0)) ∧ Hid (wx.ownsRow W.heap.size 2 1 v (cA at' (fun j => kd (at' j) (rs j) (os j)) k).length ((cA at' (fun j => kd (at' j) (rs j) (os j)) k).map (Value.int .i64))) ∧ Hid (Below W.heap.size W wx))
    case atStart => exact ⟨0, .slice none 0 0, rfl, by omega, rfl, heap_alloc_new W _, World.ownsRow_nil _ _ _ _, (Below.refl _ _).alloc (Nat.le_refl _) _⟩
    case round =>
      obtain ⟨k, v, rfl, hk, rfl, HB, HO, HW⟩ := hrel
      by_cases hlt : k < n
      · obtain ⟨c0, c1, c2, cf, cM⟩ := HB.out.cells
        have hP := HP.out
        have hsz := HW.out.size
        have lS := hP.lt
        have lE := World.block_lt_of_cell? W _ (hP.eo k hlt)
        have lP := World.block_lt_of_cell? W _ (hP.po k hlt)
        have a1 := (HW.out.cell (p := ⟨S, k, none⟩) lS).trans (hP.es k hlt)
        have a2 := (HW.out.cell (p := ⟨E k, 0, none⟩) lE).trans (hP.eo k hlt)
        have a3 := (HW.out.cell (p := ⟨E k, 7, none⟩) lE).trans (hP.ea k hlt)
        have a4 := (HW.out.cell (p := ⟨P k, 0, none⟩) lP).trans (hP.po k hlt)
        have a5 := (HW.out.cell (p := ⟨P k, 6, none⟩) lP).trans (hP.pr k hlt)
        have cf0 := cf 0
        have hcl := cA_len at' (fun j => kd (at' j) (rs j) (os j)) k
        have HA : Hid (cA at' (fun j => kd (at' j) (rs j) (os j)) (k + 1) = cA at' (fun j => kd (at' j) (rs j) (os j)) k ++ if kd (at' k) (rs k) (os k) = true then [at' k] else []) := rfl
        clear hP lS lP cf
        generalize cA at' (fun j => kd (at' j) (rs j) (os j)) k = A0 at HA HO hcl
        generalize E k = Ek at *
        generalize P k = Pk at *
        generalize at' k = x at a3 HA
        generalize rs k = r at a5 HA
        generalize os k = o at a4 HA
        by_cases HK : kd x r o = true
        · have HA1 : Hid (cA at' (fun j => kd (at' j) (rs j) (os j)) (k + 1) = A0 ++ [x]) := by show _ = _; rw [HA.out, if_pos HK]
          have hx : 0 ≤ x := by simp [kd] at HK; exact HK.1
          have hro : (r.toList == [111, 107]) = true ∨ (r.toList == [111, 107]) = false ∧ (o.toList == [119, 114, 105, 116, 101]) = true := by
            cases hr : (r.toList == [111, 107]) with
            | true => exact .inl rfl
            | false => refine .inr ⟨rfl, ?_⟩; simp [kd, hr] at HK; simpa using HK.2
          clear HK HA
          rcases hro with hr | ⟨hr, ho⟩
          all_goals
            go_wp2_with fail
            go_region_law (first | (refine step_own rfl (.tmp 45) (.tmp 50) 27 rfl W.heap.size 2 i1 (.int .i64 0) 1 8 Try.underlying27 hi hz0 hz1 hz2 rfl (by decide) v A0.length (A0.map (Value.int .i64)) (by rfl) (HO.out.alloc _).drew ⟨wr.heap.size, 0, none⟩ 1 1 [.int .i64 x] (by rfl) rfl (one_new_drew _ _ _) (int_one _) (by unfold maxLen; omega) (by omega) (Nat.le_trans hsz (by simp)) ?_; intro v2 w2 hv2 hg2; obtain ⟨ao, cp, rfl, _, _⟩ := own_slice hv2; have HB2 := hid (NBox.grown (HB.out.alloc _).drew hg2 (HB.out.row_ne HO.out (by decide))); obtain ⟨d0, d1, d2, df, dM⟩ := HB2.out.cells; have df0 := df 0; have HW2 := hid (Below.grown (HW.out.alloc hsz _).drew hg2 (Nat.le_trans hsz (by simp)) (fun q hq => (HO.out.lt q hq).1)); have HO2 := hid hv2; clear df hv2 hg2))
            all_goals
              have HO3 := hid (ownsRow_setCell_other HO2.out (a := ⟨W.heap.size, 0, none⟩) (HB2.out.row_ne HO2.out (by decide)) (.slice ao (A0.length + 1) cp))
              have HB3 := hid (HB2.out.set0 (.slice ao (A0.length + 1) cp))
              have HW3 := hid (HW2.out.setCell (p := ⟨W.heap.size, 0, none⟩) (Nat.le_refl _) (.slice ao (A0.length + 1) cp))
              clear HB2 HO2 HW2
              go_wp2
              go_roundg (n - (k + 1))
              case measure => omega
              case rel => exact ⟨k + 1, _, by go_num, by omega, rfl, HB3, by rw [HA1.out, List.length_append, List.map_append]; exact HO3, HW3⟩
        · have HA1 : Hid (cA at' (fun j => kd (at' j) (rs j) (os j)) (k + 1) = A0) := by show _ = _; rw [HA.out, if_neg HK, List.append_nil]
          have hro : (x < 0) ∨ (0 ≤ x ∧ (r.toList == [111, 107]) = false ∧ (o.toList == [119, 114, 105, 116, 101]) = false) := by
            by_cases hx : 0 ≤ x
            · refine .inr ⟨hx, ?_⟩
              simp [kd, hx] at HK
              simpa using HK
            · exact .inl (by omega)
          clear HK HA
          rcases hro with hx | ⟨hx, hr, ho⟩
          all_goals
            go_wp2
            go_roundg (n - (k + 1))
            case measure => omega
            case rel => exact ⟨k + 1, v, by go_num, by omega, rfl, HB, by rw [HA1.out]; exact HO, HW⟩
      · obtain rfl : n = k := by omega
        go_wp2
        go_meet
        case rel => exact ⟨v, HB, HO, HW⟩
  case rest =>
    obtain ⟨v, HB, HO, HW⟩ := hcut
    have hcl := cA_len at' (fun j => kd (at' j) (rs j) (os j)) n
    generalize hA : cA at' (fun j => kd (at' j) (rs j) (os j)) n = A at HO hcl
    have HA := hid hA
    clear hA
    obtain ⟨c0, c1, c2, cf, cM⟩ := HB.out.cells
    have hszc := HW.out.size
    have C31 : Hid (Calls Try.prog 31 #[v] wc fun e w' => e = .returned (.tuple #[]) ∧ NBox w' W.heap.size v (.slice none 0 0) ∧ w'.ownsRow W.heap.size 2 1 v A.length ((A.mergeSort fun x y => decide (x ≤ y)).map (Value.int .i64)) ∧ Below W.heap.size W w') :=
      (sortI_any W.heap.size v A wc HO.out (by omega)).mono fun e w' ⟨h1, h2, h3⟩ => ⟨h1, HB.out.grown h3 (HB.out.row_ne HO.out (by decide)), h2, HW.out.grown h3 hszc (fun q hq => (HO.out.lt q hq).1)⟩
    have C32 : Hid (∀ W2, NBox W2 W.heap.size v (.slice none 0 0) → W2.ownsRow W.heap.size 2 1 v A.length ((A.mergeSort fun x y => decide (x ≤ y)).map (Value.int .i64)) → Below W.heap.size W W2 → Calls Try.prog 32 #[v] W2 fun e w' => ∃ ao cp, e = .returned (.slice ao (vers A).length cp) ∧ NBox w' W.heap.size v (.slice none 0 0) ∧ w'.ownsRow W.heap.size 2 1 (.slice ao (vers A).length cp) (vers A).length ((vers A).map (Value.int .i64)) ∧ Below W.heap.size W w') := by
      intro W2 h1 h2 h3
      have hl : (A.mergeSort fun x y => decide (x ≤ y)).length = A.length := by simp
      rw [← hl] at h2
      refine (compI_any W.heap.size v _ W2 h2 (by rw [hl]; omega)).mono ?_
      rintro e w' ⟨v', rfl, q1, q2⟩
      obtain ⟨ao, cp, rfl, _, _⟩ := own_slice q1
      exact ⟨ao, cp, rfl, h1.grown q2 (h1.row_ne h2 (by decide)), q1, h3.grown q2 h3.size (fun q hq => (h2.lt q hq).1)⟩
    have hvl : (vers A).length ≤ A.length := by
      have := Lib.compact_length_le (A.mergeSort fun x y => decide (x ≤ y))
      simpa [vers] using this
    generalize hV : vers A = V at C32 hvl
    have HV := hid hV
    clear hV
    go_wp2_with (first | (go_at_call 31; refine C31.out.mono ?_; rintro e W2 ⟨rfl, hB2, hO2, hW2⟩; obtain ⟨d0, d1, d2, df, dM⟩ := hB2.cells) | (go_at_call 32; refine (C32.out _ hB2 hO2 hW2).mono ?_; rintro e W3 ⟨ao, cp, rfl, hB3, hO3, hW3⟩; obtain ⟨e0, e1, e2, ef, eM⟩ := hB3.cells; have ef0 := ef 0; have hs3 := hW3.size) | (at_make; refine wpList_make_full _ rfl (.tmp 73) (.tmp 73) 35 rfl W.heap.size 3 i2 (.int .i64 0) 1 Try.underlying35 gi gz0 gz1 _ _ _ _ V.length rfl rfl rfl rfl (by rw [gz2]; omega) (by unfold maxLen; omega) (by simp; omega) ?_; intro W4 ho4 hg4; have hB4 := (hB3.set0 (.slice ao V.length cp)).grown hg4 (by simp); obtain ⟨f0, f1, f2, ff, fM⟩ := hB4.cells; have ff1 := ff 1))
    have HINIT : Hid (N2 W W.heap.size n E at' (fun j => kd (at' j) (rs j) (os j)) V (.slice ao V.length cp) (.slice (some ⟨W3.heap.size, 0, none⟩) V.length V.length) 0 (W4.setCell ⟨W.heap.size, 1, none⟩ (.slice (some ⟨W3.heap.size, 0, none⟩) V.length V.length))) := by
      have hW4 : Below W.heap.size W W4 := (hW3.setCell (p := ⟨W.heap.size, 0, none⟩) (Nat.le_refl _) _).grown hg4 (by simp; omega) (fun q hq => by cases hq)
      have hW5 := hW4.setCell (p := ⟨W.heap.size, 1, none⟩) (Nat.le_refl _) (.slice (some ⟨W3.heap.size, 0, none⟩) V.length V.length)
      have hP := HP.out
      have lE : ∀ j, j < n → E j < W.heap.size := fun j hj => World.block_lt_of_cell? W _ (hP.eo j hj)
      have hrv : W4.ownsRow W.heap.size 2 1 (.slice ao V.length cp) V.length (V.map (Value.int .i64)) := (ownsRow_setCell_other hO3 (a := ⟨W.heap.size, 0, none⟩) (hB3.row_ne hO3 (by decide)) _).kept hg4 (by
        rcases hh : (Value.slice ao V.length cp).ownBlock with _ | q
        · exact .inl rfl
        · exact .inr (by simp))
      have hrc : W4.ownsRow W.heap.size 3 1 (.slice (some ⟨W3.heap.size, 0, none⟩) V.length V.length) V.length (cntRow V []) := by
        have e1 : cntRow V [] = List.replicate V.length (.int .i64 0) := by
          unfold cntRow
          simp [List.map_const']
        rw [e1, ← toList_madeCells_one]
        simpa [Value.cells] using ho4
      refine ⟨hW5.os, hW5.tape, hW5.output, hW5.size, fun b hb _ => hW5.block b hb, hB4.set1 _, ownsRow_setCell_other hrv (hB4.row_ne hrv (by decide)) _, ownsRow_setCell_other hrc (hB4.row_ne hrc (by decide)) _, fun j hj o _ => hW5.cell (lE j hj), fun j hj o => hW5.frozen (lE j hj), fun j hj => by omega, fun j _ hj => ?_⟩
      obtain ⟨u, hu⟩ := hP.en j hj
      exact ⟨u, (hW5.cell (lE j hj)).trans hu⟩
    have HVF := hid (vers_facts A)
    rw [HV.out] at HVF
    obtain ⟨G, hG⟩ : ∃ G, G = W3.heap.size := ⟨_, rfl⟩
    rw [← hG] at HINIT ⊢
    obtain ⟨vV, hvV⟩ : ∃ vV, vV = Value.slice ao V.length cp := ⟨_, rfl⟩
    clear C31 C32 hB2 hO2 hW2 d0 d1 d2 df dM hB3 hO3 hW3 e0 e1 e2 ef ef0 eM ho4 hg4 hB4 f0 f1 f2 ff fM ff1 hG hs3 HB HO HW c0 c1 c2 cf cM hszc hvV vV
    go_loopg [79] n (fun g s79 wx => ∃ (k : Nat), s79 = .int .i64 k ∧ k ≤ n ∧ g = n - k ∧ Hid (N2 W W.heap.size n E at' (fun j => kd (at' j) (rs j) (os j)) V (.slice ao V.length cp) (.slice (some ⟨G, 0, none⟩) V.length V.length) k wx))
    case atStart => exact ⟨0, rfl, by omega, rfl, HINIT⟩
    case round =>
      obtain ⟨k, rfl, hk, rfl, HN⟩ := hrel
      by_cases hlt : k < n
      · have hP := HP.out
        have hN := HN.out
        have lS := hP.lt
        have lE : ∀ j, j < n → E j < W.heap.size := fun j hj => World.block_lt_of_cell? W _ (hP.eo j hj)
        have lP := World.block_lt_of_cell? W _ (hP.po k hlt)
        have a1 := (World.cell?_of_block (w := W) (a := ⟨S, k, none⟩) (hN.keep S lS (fun j hj e => hP.eS j hj e.symm))).trans (hP.es k hlt)
        have a2 := (hN.c0 k hlt 0 (by omega)).trans (hP.eo k hlt)
        have a3 := (hN.c0 k hlt 7 (by omega)).trans (hP.ea k hlt)
        have a4 := (World.cell?_of_block (w := W) (a := ⟨P k, 0, none⟩) (hN.keep (P k) lP (fun j hj e => hP.ep j k hj hlt e.symm))).trans (hP.po k hlt)
        have a5 := (World.cell?_of_block (w := W) (a := ⟨P k, 6, none⟩) (hN.keep (P k) lP (fun j hj e => hP.ep j k hj hlt e.symm))).trans (hP.pr k hlt)
        obtain ⟨u8, a6⟩ := hN.n0 k (Nat.le_refl _) hlt
        have a7 := (hN.fz k hlt 8).trans (hP.ef k hlt)
        have hne := hP.ep k k hlt hlt
        have hne' : ¬ E k = P k := hne
        have hne2 : ¬ P k = E k := fun e => hne e.symm
        have lEk := lE k hlt
        have hne3 : ¬ E k = W.heap.size := by omega
        have hne4 : ¬ W.heap.size = E k := by omega
        have HSET := hid (fun (w : World) (h : N2 W W.heap.size n E at' (fun j => kd (at' j) (rs j) (os j)) V (.slice ao V.length cp) (.slice (some ⟨G, 0, none⟩) V.length V.length) k w) (u : Value) => h.set hlt hP.inj lE (Nat.le_refl _) u)
        have HND : Hid (ndv V (at' k) (kd (at' k) (rs k) (os k)) = if kd (at' k) (rs k) (os k) = true then ((V.countP (fun y => decide (y < at' k)) : Nat) : Int) else -1) := rfl
        have HLE := hid lE
        clear hP lS lP hN hne lE
        by_cases HK : kd (at' k) (rs k) (os k) = true
        · have hx : 0 ≤ at' k := by simp [kd] at HK; exact HK.1
          have hro : ((rs k).toList == [111, 107]) = true ∨ ((rs k).toList == [111, 107]) = false ∧ ((os k).toList == [119, 114, 105, 116, 101]) = true := by
            cases hr : ((rs k).toList == [111, 107]) with
            | true => exact .inl rfl
            | false => refine .inr ⟨rfl, ?_⟩; simp [kd, hr] at HK; simpa using HK.2
          have hmem : at' k ∈ V := (HVF.out.2 _).2 (by rw [← HA.out, cA_mem]; exact ⟨k, hlt, HK, rfl⟩)
          obtain ⟨hix, hgx⟩ := idx_facts HVF.out.1 hmem
          obtain ⟨ao', cp', he, _, hg⟩ := own_slice HN.out.rv
          cases he
          obtain ⟨gv, rfl, _, _⟩ := hg (by omega)
          obtain ⟨b0, b1, b2, bf, bM⟩ := HN.out.box.cells
          have hcount : wr.cell? ⟨G, V.countP (fun y => decide (y < at' k)), none⟩ = some (.int .i64 (((cA at' (fun j => kd (at' j) (rs j) (os j)) k).count (at' k) : Nat) : Int)) := by
            rw [HN.out.rc.cellAt _ (by omega), cntRow_get _ _ _ hix, hgx]
          have hcb : (cA at' (fun j => kd (at' j) (rs j) (os j)) k).count (at' k) ≤ k := Nat.le_trans List.count_le_length (cA_len _ _ _)
          have hGf := HN.out.rc.frozenAt (V.countP (fun y => decide (y < at' k)))
          have hG1 := (HN.out.rc.lt G rfl).1
          have C33 := hid (fun (w : World) (h : N2 W W.heap.size n E at' (fun j => kd (at' j) (rs j) (os j)) V (.slice (some ⟨gv, 0, none⟩) V.length cp) (.slice (some ⟨G, 0, none⟩) V.length V.length) k w) => h.search HVF.out.1 (by omega) (at' k))
          have HN1 := hid (HSET.out wr HN.out (.int .i64 (-1))).1
          have HF : Hid (∀ w' : World, w'.heap = ((wr.setCell ⟨E k, 8, none⟩ (.int .i64 (-1))).setCell ⟨E k, 8, none⟩ (.int .i64 ((V.countP (fun y => decide (y < at' k)) : Nat) : Int))).heap → w'.os = wr.os → w'.tape = wr.tape → w'.output = wr.output → N2 W W.heap.size n E at' (fun j => kd (at' j) (rs j) (os j)) V (.slice (some ⟨gv, 0, none⟩) V.length cp) (.slice (some ⟨G, 0, none⟩) V.length V.length) (k + 1) (w'.setCell ⟨G, V.countP (fun y => decide (y < at' k)), none⟩ (.int .i64 ((((cA at' (fun j => kd (at' j) (rs j) (os j)) k).count (at' k) : Nat) : Int) + 1)))) := by
            intro w' e1 e2 e3 e4
            obtain ⟨q1, q2⟩ := HSET.out _ HN1.out (.int .i64 ((V.countP (fun y => decide (y < at' k)) : Nat) : Int))
            have q3 := q1.same (w' := w') e1 e2 e3 e4
            refine q3.inc hlt HLE.out HK HVF.out.1 _ hix hgx ?_
            rw [cell_heap _ e1, q2, HND.out, if_pos HK]
          clear HK HSET HND hmem bf
          have hne5 : ¬ E k = G := by omega
          have hne6 : ¬ G = E k := by omega
          have hii : ((V.countP (fun y => decide (y < at' k)) : Nat) : Int) < (V.length : Int) := by omega
          generalize (cA at' (fun j => kd (at' j) (rs j) (os j)) k).count (at' k) = cc at *
          generalize V.countP (fun y => decide (y < at' k)) = ix at *
          generalize E k = Ek at *
          generalize P k = Pk at *
          generalize at' k = x at *
          generalize rs k = r at *
          generalize os k = o at *
          have hoth : ∀ (w : World) (u : Value), (w.setCell ⟨Ek, 8, none⟩ u).cell? ⟨Ek, 7, none⟩ = w.cell? ⟨Ek, 7, none⟩ := fun w u => cOther (addr_ne (.inr (by omega)))
          rcases hro with hr | ⟨hr, ho⟩
          all_goals
            go_wp2_with fail
            go_region_held3 (fun w' => w'.cell? ⟨W.heap.size, 0, none⟩ = some (.slice (some ⟨gv, 0, none⟩) V.length cp) ∧ w'.cell? ⟨Ek, 7, none⟩ = some (.int .i64 x)) (go_keep) (first | (go_at_call_of 33 (Value.int IntKind.i64 x); refine (C33.out _ (N2.drew HN1.out)).mono ?_; rintro e w' ⟨bb, q, rfl, rfl⟩))
            go_wp2_with fail
            go_region
            go_wp2
            go_roundg (n - (k + 1))
            case measure => omega
            case rel => exact ⟨k + 1, by go_num, by omega, rfl, N2.drew (HF.out (((wr.setCell ⟨Ek, 8, none⟩ (.int .i64 (-1))).drewN (1 + q)).setCell ⟨Ek, 8, none⟩ (.int .i64 (ix : Nat))) rfl rfl rfl rfl)⟩
        · have hro : (at' k < 0) ∨ (0 ≤ at' k ∧ ((rs k).toList == [111, 107]) = false ∧ ((os k).toList == [119, 114, 105, 116, 101]) = false) := by
            by_cases hx : 0 ≤ at' k
            · refine .inr ⟨hx, ?_⟩
              simp [kd, hx] at HK
              simpa using HK
            · exact .inl (by omega)
          have HF : Hid (N2 W W.heap.size n E at' (fun j => kd (at' j) (rs j) (os j)) V (.slice ao V.length cp) (.slice (some ⟨G, 0, none⟩) V.length V.length) (k + 1) (wr.setCell ⟨E k, 8, none⟩ (.int .i64 (-1)))) := by
            obtain ⟨q1, q2⟩ := HSET.out wr HN.out (.int .i64 (-1))
            refine q1.next hlt (by rw [q2, HND.out, if_neg HK]) ?_
            have := q1.rc
            simpa only [cA, if_neg HK, List.append_nil] using this
          clear HK HSET HND HN
          generalize E k = Ek at *
          generalize P k = Pk at *
          generalize at' k = x at *
          generalize rs k = r at *
          generalize os k = o at *
          rcases hro with hx | ⟨hx, hr, ho⟩
          all_goals
            go_wp2
            go_roundg (n - (k + 1))
            case measure => omega
            case rel => exact ⟨k + 1, by go_num, by omega, rfl, HF⟩
      · obtain rfl : n = k := by omega
        go_wp2
        go_ret
        exact ⟨rfl, _, _, by rw [HA.out, HV.out]; exact HN.out⟩

end Go.Proofs.Qxb6601677a
