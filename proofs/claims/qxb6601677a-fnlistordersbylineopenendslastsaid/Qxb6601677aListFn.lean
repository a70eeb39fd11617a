/-
  The walk of FnListOrdersByLineOpenEndsLast (6).
-/
import Derived.Test.Qxb6601677aListMake
import Derived.Lib.Builder
namespace Go.Proofs.Qxb6601677a
open Go.ChangeShapes Go.WideShapes Go.ChangeAt Go.RowKit
set_option linter.unusedVariables false

theorem Below.row {w w' : World} {base : Nat} {e : TypeId} {size : Nat} {v : Value} {n : Nat} {xs : List Value} (h : Below w.heap.size w w') (hv : w.ownsRow base e size v n xs) : w'.ownsRow base e size v n xs := by
  refine ⟨hv.1, ?_⟩
  rcases hv.2 with hx | ⟨g, cap, cur, rfl, hb, hg, rest⟩
  · exact .inl hx
  · refine .inr ⟨g, cap, cur, rfl, hb, ?_, rest⟩
    rw [h.block g (Array.getElem?_eq_some_iff.1 hg).1]
    exact hg

/-- The cells of a row of integers, as a loop reads them. -/
theorem ints_read {w : World} {base n : Nat} {bo : Option Addr} {xs : List Int} (hv : w.ownsRow base 3 1 (.slice bo n n) n (xs.map (Value.int .i64))) : ∃ B, ∀ j, j < n → bo = some ⟨B, 0, none⟩ ∧ w.cell? ⟨B, j, none⟩ = some (.int .i64 (xs.getD j 0)) ∧ B < w.heap.size := by
  have hl : xs.length = n := by have := hv.1; simpa using this
  rcases hv.2 with ⟨h0, h1⟩ | ⟨g, cap, cur, h, hb, hg, h1, h2, h3, h4⟩
  · exact ⟨0, fun j hj => by omega⟩
  · cases h
    refine ⟨g, fun j hj => ⟨rfl, ?_, (Array.getElem?_eq_some_iff.1 hg).1⟩⟩
    rw [hv.cellAt j (by omega)]
    simp [List.getD, show j < xs.length by omega]

theorem one_ok (c : Int) : ∀ u ∈ [Value.int .i64 c], u.oneCell' = true := by
  intro u hu
  simp at hu
  subst hu
  rfl

theorem ps_len (cs rs : List Int) (k : Nat) : k ≤ (Ls.psL cs rs k).length ∧ (Ls.psL cs rs k).length ≤ 2 * k := by
  induction k with
  | zero => simp [Ls.psL]
  | succ k ih =>
    simp only [Ls.psL, List.length_append, List.length_cons]
    split <;> simp <;> omega

theorem IsRow.below {k : IntKind} {w w' : World} {a : Option Addr} {len cap : Nat} {zs : List Int} (h : IsRow k w a len cap zs) (hb : Below w.heap.size w w') : IsRow k w' a len cap zs := by
  rcases h with h | ⟨x, h1, h2, h3, h4, h5, h6⟩
  · exact .inl h
  · exact .inr ⟨x, h1, h2, h3, h4, fun i hi => (hb.cell (World.block_lt_of_cell? w _ (h5 i hi))).trans (h5 i hi), h6⟩

theorem IsRow.range {w : World} {a : Option Addr} {len cap : Nat} {zs : List Int} (h : IsRow .i64 w a len cap zs) : (zs.take len).length = len ∧ ∀ j, (zs.take len).getD j 0 ≤ 9223372036854775807 := by
  rcases h with ⟨_, rfl, _, rfl⟩ | ⟨x, h1, h2, h3, h4, h5, h6⟩
  · exact ⟨rfl, fun j => by simp⟩
  · refine ⟨by simp; omega, fun j => ?_⟩
    by_cases hj : j < (zs.take len).length
    · have hm : (zs.take len).getD j 0 ∈ zs := by
        rw [List.getD_eq_getElem?_getD, List.getElem?_eq_getElem hj]
        exact List.mem_of_mem_take (List.getElem_mem _)
      have := h6 _ hm
      generalize (zs.take len).getD j 0 = q at *
      simp [Lit.wf] at this
      omega
    · rw [List.getD_eq_getElem?_getD, List.getElem?_eq_none (by omega)]
      simp

theorem Try.neqSame (w : World) (a : Addr) : (binOp .neq 23 (.pointer (some a)) (.pointer (some a))).run Try.prog w = .ok (.bool false) w := by
  have h : ∃ j, Try.prog.info? 57 = some j := by
    have h1 : (Try.prog.info? 57).isSome = true := by kernel_rfl
    exact Option.isSome_iff_exists.1 h1
  obtain ⟨j, hj⟩ := h
  exact Lib.run_neq_ptr_same w a Try.underlying23 hj

set_option maxHeartbeats 8000000 in
set_option maxRecDepth 20000 in
theorem law6_main (n cap0 cap1 : Nat) (a0 a1 : Option Addr) (z0 z1 : List Int) (w : World) (w0 : IsRow .i64 w a0 n cap0 z0) (w1 : IsRow .i64 w a1 n cap1 z1) (hn : n ≤ 4096) :
    Calls Try.prog 6 #[.slice a0 n cap0, .slice a1 n cap1] w fun e w' => e = .returned (.bool true) ∧ Below w.heap.size w w' := by
  obtain ⟨i1, hi, hz0, hz1, hz2⟩ := info_parts Try.info3
  obtain ⟨i2, gi, gz0, gz1, gz2⟩ := info_parts Try.info23
  have q23 := Try.neqSame
  have hc0 : n ≤ cap0 := by rcases w0 with ⟨_, h, h', _⟩ | ⟨x, _, h, _⟩; omega; exact h
  have hc1 : n ≤ cap1 := by rcases w1 with ⟨_, h, h', _⟩ | ⟨x, _, h, _⟩; omega; exact h
  have C19 := hid (zzBytes_list a0 a1 n cap0 n cap1 hc0 hc1 w)
  have C20 := hid (copyInts_any a0 n cap0 z0 w w0 (by omega))
  have HW1 := hid w1
  have HW0 := hid w0
  clear w0 w1 hc0 hc1
  go_enter Try.func6, Try.ntmps6
  go_wp2_with (go_at_call 19; refine C19.out.mono ?_; rintro e w' ⟨⟨r, rfl, hr⟩, hw⟩; obtain rfl := hw.symm; clear hw)
  · go_ret
    exact ⟨rfl, Below.refl _ _⟩
  refine C20.out.mono ?_
  rintro e W1 ⟨b0, rfl, ho0, hb0⟩
  have C21 := hid (copyInts_any a1 n cap1 z1 W1 (HW1.out.below hb0) (by omega))
  go_wp2_with (go_at_call 20; refine C21.out.mono ?_; rintro e W3 ⟨b1, rfl, ho1, hb1⟩)
  have hs0 := hb0.size
  have hs1 := hb1.size
  have hbw : Below w.heap.size w W3 := hb0.trans (hb1.mono hs0)
  obtain ⟨B0, hr0⟩ := ints_read (Below.row hb1 ho0)
  obtain ⟨B1, hr1⟩ := ints_read ho1
  obtain ⟨hl0, hm0⟩ := HW0.out.range
  obtain ⟨hl1, hm1⟩ := HW1.out.range
  have HR0 := hid hr0
  have HR1 := hid hr1
  have HM0 := hid hm0
  have HM1 := hid hm1
  have HL0 := hid hl0
  have HL1 := hid hl1
  clear hr0 hr1 hm0 hm1 hl0 hl1 C19 C20 C21 HW0 HW1 hb0 hb1 ho0 ho1 hs0 hs1
  generalize z0.take n = cs at *
  generalize z1.take n = rs at *
  go_loopg [6] n (fun g s6 wx => ∃ (k : Nat), s6 = .int .i64 k ∧ k ≤ n ∧ g = n - k ∧ Hid (∀ j, j < k → 0 ≤ cs.getD j 0) ∧ W3 = wx)
  case atStart => exact ⟨0, rfl, by omega, rfl, fun j hj => by omega, rfl⟩
  case round =>
    obtain ⟨k, rfl, hk, rfl, HNN, rfl⟩ := hrel
    by_cases hlt : k < n
    · obtain ⟨rfl, b1', b2'⟩ := HR0.out k hlt
      have HS : Hid (0 ≤ cs.getD k 0 → ∀ j, j < k + 1 → 0 ≤ cs.getD j 0) := fun h j hj => by
        by_cases hjk : j = k
        · subst hjk; exact h
        · exact HNN.out j (by omega)
      generalize cs.getD k 0 = x at b1' HS
      by_cases hx : x < 0
      · go_wp2
        go_ret
        exact ⟨rfl, hbw⟩
      · go_wp2
        go_roundg (n - (k + 1))
        case measure => omega
        case rel => exact ⟨k + 1, by go_num, by omega, rfl, HS.out (by omega), rfl⟩
    · obtain rfl : n = k := by omega
      go_wp2_with (at_make; refine wpList_make_own _ rfl _ _ 35 rfl W3.heap.size 3 i1 (.int .i64 0) 1 Try.underlying35 hi hz0 hz1 _ _ _ (2 * n) rfl rfl ?m0 ?m1 ?m2 ?m3 ?_)
      case m0 => omega
      case m1 => rw [hz2]; omega
      case m2 => unfold maxLen; omega
      case m3 => omega
      intro W4 ho4 hg4
      have hb4 : Below W3.heap.size W3 W4 := (Below.refl _ _).grown hg4 (Nat.le_refl _) (fun k hk => by cases hk)
      clear hg4
      go_wp2_with fail
      go_loopg [7, 8] n (fun g s7 s8 wx => ∃ (k : Nat), s7 = .slice (some ⟨W3.heap.size, 0, none⟩) (Ls.psL cs rs k).length (2 * n) ∧ s8 = .int .i64 k ∧ k ≤ n ∧ g = n - k ∧ wx.ownsRow W3.heap.size 3 1 (.slice (some ⟨W3.heap.size, 0, none⟩) (Ls.psL cs rs k).length (2 * n)) (Ls.psL cs rs k).length ((Ls.psL cs rs k).map (Value.int .i64)) ∧ Below W3.heap.size W3 wx)
      case atStart => exact ⟨0, rfl, rfl, by omega, rfl, ho4, hb4⟩
      case round =>
        obtain ⟨k, rfl, rfl, hk, rfl, ho, hb⟩ := hrel
        by_cases hlt : k < n
        · obtain ⟨rfl, a1, a2⟩ := HR0.out k hlt
          obtain ⟨rfl, a3, a4⟩ := HR1.out k hlt
          have hpl := ps_len cs rs k
          have a5 := (hb.cell (p := ⟨B0, k, none⟩) a2).trans a1
          have a6 := (hb.cell (p := ⟨B1, k, none⟩) a4).trans a3
          have hpos : Hid (Ls.psL cs rs (k + 1) = Ls.psL cs rs k ++ (cs.getD k 0 :: if 0 ≤ rs.getD k 0 then [rs.getD k 0] else [])) := rfl
          have HP1 : Hid (Ls.psL cs rs (k + 1) = Ls.psL cs rs (k + 1)) := rfl
          have hsz := hb.size
          clear a1 a3
          generalize hx : cs.getD k 0 = x at a5 hpos
          generalize hy : rs.getD k 0 = y at a6 hpos
          generalize hp0 : Ls.psL cs rs k = p0 at ho hpl hpos ⊢
          clear hx hy hp0
          go_wp2_with (at_builtin; refine wpList_append_fits _ rfl (.tmp 59) (.tmp 64) 35 rfl W3.heap.size 3 i1 1 Try.underlying35 hi hz1 W3.heap.size p0.length (2 * n) _ rfl (ho.alloc _) ⟨wr.heap.size, 0, none⟩ 1 1 [.int .i64 x] rfl rfl ?c1 ?c2 ?c3 ?_)
          case c2 => rfl
          case c3 => omega
          intro w5 ho5 hg5
          have hb5 : Below W3.heap.size W3 w5 := (hb.alloc hsz _).grown hg5 (by simp; omega) (fun k hk => by cases hk; exact Nat.le_refl _)
          have hsz5 := hb5.size
          have a7 := (hb5.cell (p := ⟨B1, k, none⟩) a4).trans ((hb.cell (p := ⟨B1, k, none⟩) a4).symm.trans a6)
          clear ho hg5 hb a5 a6
          by_cases hy : 0 ≤ y
          · go_wp2_with (at_builtin; refine wpList_append_fits _ rfl (.tmp 71) (.tmp 76) 35 rfl W3.heap.size 3 i1 1 Try.underlying35 hi hz1 W3.heap.size (p0.length + 1) (2 * n) _ rfl (ho5.alloc _) ⟨w5.heap.size, 0, none⟩ 1 1 [.int .i64 y] rfl rfl ?d1 ?d2 ?d3 ?_)
            case d1 => exact one_new _ _ _
            case d2 => exact one_ok _
            case d3 => omega
            intro w6 ho6 hg6
            have hb6 : Below W3.heap.size W3 w6 := (hb5.alloc hsz5 _).grown hg6 (by simp; omega) (fun k hk => by cases hk; exact Nat.le_refl _)
            have HF : Hid (Ls.psL cs rs (k + 1) = p0 ++ [x, y]) := by show _ = _; rw [hpos.out, if_pos hy]
            have HE : Hid ((Value.slice (some ⟨W3.heap.size, 0, none⟩) (p0.length + 1 + 1) (2 * n)) = .slice (some ⟨W3.heap.size, 0, none⟩) (Ls.psL cs rs (k + 1)).length (2 * n) ∧ w6.ownsRow W3.heap.size 3 1 (.slice (some ⟨W3.heap.size, 0, none⟩) (Ls.psL cs rs (k + 1)).length (2 * n)) (Ls.psL cs rs (k + 1)).length ((Ls.psL cs rs (k + 1)).map (Value.int .i64))) := by
              show _ ∧ _
              rw [HF.out]
              refine ⟨by simp, ?_⟩
              simpa using ho6
            clear ho6 ho5 hpos
            go_wp2
            go_roundg (n - (k + 1))
            case measure => omega
            case rel => exact ⟨k + 1, HE.out.1, by go_num, by omega, rfl, HE.out.2, hb6⟩
          · have HF : Hid (Ls.psL cs rs (k + 1) = p0 ++ [x]) := by show _ = _; rw [hpos.out, if_neg hy]
            have HE : Hid ((Value.slice (some ⟨W3.heap.size, 0, none⟩) (p0.length + 1) (2 * n)) = .slice (some ⟨W3.heap.size, 0, none⟩) (Ls.psL cs rs (k + 1)).length (2 * n) ∧ w5.ownsRow W3.heap.size 3 1 (.slice (some ⟨W3.heap.size, 0, none⟩) (Ls.psL cs rs (k + 1)).length (2 * n)) (Ls.psL cs rs (k + 1)).length ((Ls.psL cs rs (k + 1)).map (Value.int .i64))) := by
              show _ ∧ _
              rw [HF.out]
              refine ⟨by simp, ?_⟩
              simpa using ho5
            clear ho5 hpos
            go_wp2
            go_roundg (n - (k + 1))
            case measure => omega
            case rel => exact ⟨k + 1, HE.out.1, by go_num, by omega, rfl, HE.out.2, hb5⟩
        · obtain rfl : n = k := by omega
          have hpl := ps_len cs rs n
          have hsz := hb.size
          have C21 : Hid (Calls Try.prog 21 #[.slice (some ⟨W3.heap.size, 0, none⟩) (Ls.psL cs rs n).length (2 * n)] wr fun e w' => ∃ (b : Bool), e = .returned (.bool b) ∧ Hid (b = true → Dist (Ls.psL cs rs n) (Ls.psL cs rs n).length (Ls.psL cs rs n).length) ∧ w'.ownsRow W3.heap.size 3 1 (.slice (some ⟨W3.heap.size, 0, none⟩) (Ls.psL cs rs n).length (2 * n)) (Ls.psL cs rs n).length ((Ls.psL cs rs n).map (Value.int .i64)) ∧ Below W3.heap.size W3 w') := by
            refine (allDistinct_any W3.heap.size (Ls.psL cs rs n).length (2 * n) (Ls.psL cs rs n) wr (by omega) (by omega) ?_).mono ?_
            · intro i hi
              rw [ho.cellAt i (by omega)]
              simp [List.getD, hi]
            · rintro e w' ⟨b, q, rfl, hD, rfl⟩
              exact ⟨b, rfl, hD, ho, ⟨hb.os, hb.tape, hb.output, hb.size, hb.block⟩⟩
          clear ho hb ho4 hb4
          generalize hps : Ls.psL cs rs n = ps at C21 hpl ⊢
          have HPS := hid hps
          clear hps
          go_wp2_with (first | (go_at_call 21; refine C21.out.mono ?_; rintro e W5 ⟨b, rfl, HD, ho5, hb5⟩; have hs5 := hb5.size; cases b) | (at_make; refine wpList_make_full _ rfl (.tmp 81) (.tmp 81) 33 rfl W3.heap.size 23 i2 (.pointer none) 1 Try.underlying33 gi gz0 gz1 _ _ _ _ n rfl rfl rfl rfl (by rw [gz2]; omega) (by unfold maxLen; omega) (by omega) ?_; intro W6 ho6 hg6; have hs6 := hg6.size) | (at_make; refine wpList_make_full _ rfl (.tmp 83) (.tmp 83) 33 rfl W3.heap.size 23 i2 (.pointer none) 1 Try.underlying33 gi gz0 gz1 _ _ _ _ n rfl rfl rfl rfl (by rw [gz2]; omega) (by unfold maxLen; omega) (by omega) ?_; intro W7 ho7 hg7; have hs7 := hg7.size))
          · go_ret
            exact ⟨rfl, hbw.trans (hb5.mono hbw.size)⟩
          have hE0 : (madeCells #[Value.pointer none] n).toList = rowP (Ls.E W7.heap.size) n 0 := by rw [toList_madeCells_one]; simp [rowP]
          have hN0 : (madeCells #[Value.pointer none] n).toList = rowP (Ls.N W7.heap.size) n 0 := by rw [toList_madeCells_one]; simp [rowP]
          have hES : W5.heap.size < W6.heap.size := (ho6.lt _ rfl).2
          have hEN : W6.heap.size < W7.heap.size := (ho7.lt _ rfl).2
          have hPS : W3.heap.size < W5.heap.size := (ho5.lt _ rfl).2
          have hb6 : Below W5.heap.size W5 W6 := (Below.refl _ _).grown hg6 (Nat.le_refl _) (fun k hk => by cases hk)
          have hb7 : Below W6.heap.size W6 W7 := (Below.refl _ _).grown hg7 (Nat.le_refl _) (fun k hk => by cases hk)
          have hb73 : Below W3.heap.size W3 W7 := hb5.trans ((hb6.mono hs5).trans (hb7.mono (by omega)))
          have hops : W7.ownsRow W3.heap.size 3 1 (.slice (some ⟨W3.heap.size, 0, none⟩) ps.length (2 * n)) ps.length (ps.map (Value.int .i64)) := Below.row hb7 (Below.row hb6 ho5)
          have HL3 : Hid (L3 W7 W3.heap.size W5.heap.size W6.heap.size n cs rs 0 W7) :=
            ⟨rfl, rfl, rfl, by omega, fun _ _ _ _ => rfl, by rw [← hE0]; exact Below.row hb7 (by simpa [Value.cells] using ho6), by rw [← hN0]; simpa [Value.cells] using ho7, fun j hj => by omega⟩
          have HOPS := hid hops
          have HB73 := hid hb73
          clear hE0 hN0 ho6 ho7 hg6 hg7 hb6 hb7 ho5 hb5 hops hb73 C21
          generalize hESd : W5.heap.size = ES at *
          generalize hENd : W6.heap.size = EN at *
          go_loopg [11] n (fun g s11 wx => ∃ (k : Nat), s11 = .int .i64 k ∧ k ≤ n ∧ g = n - k ∧ Hid (L3 W7 W3.heap.size ES EN n cs rs k wx))
          case atStart => exact ⟨0, rfl, by omega, rfl, HL3⟩
          case round =>
            obtain ⟨k, rfl, hk, rfl, HL⟩ := hrel
            by_cases hlt : k < n
            · obtain ⟨rfl, a1, a2⟩ := HR0.out k hlt
              obtain ⟨rfl, a3, a4⟩ := HR1.out k hlt
              have hB0 : B0 < W7.heap.size := by omega
              have hB1 : B1 < W7.heap.size := by omega
              have k0 : wr.cell? ⟨B0, k, none⟩ = some (.int .i64 (cs.getD k 0)) := (World.cell?_of_block (w := W7) (a := ⟨B0, k, none⟩) (HL.out.keep B0 hB0 (by omega) (by omega))).trans ((HB73.out.cell (p := ⟨B0, k, none⟩) a2).trans a1)
              have k1 : wr.cell? ⟨B1, k, none⟩ = some (.int .i64 (rs.getD k 0)) := (World.cell?_of_block (w := W7) (a := ⟨B1, k, none⟩) (HL.out.keep B1 hB1 (by omega) (by omega))).trans ((HB73.out.cell (p := ⟨B1, k, none⟩) a4).trans a3)
              have hszr := HL.out.size
              have k2 : wr.cell? ⟨ES, k, none⟩ = some (.pointer none) := by rw [HL.out.es.cellAt k (by omega)]; exact rowP_nil _ _ _ hlt
              have k3 := HL.out.es.frozenAt k
              generalize hx : cs.getD k 0 = x at k0
              generalize hy : rs.getD k 0 = y at k1
              obtain ⟨Ek, hEk⟩ : ∃ Ek, Ek = Ls.E W7.heap.size k := ⟨_, rfl⟩
              obtain ⟨Nk, hNk⟩ : ∃ Nk, Nk = Ls.N W7.heap.size k := ⟨_, rfl⟩
              have hn1 : ¬ ES = EN := by omega
              have hn2 : ¬ Ek = ES := by rw [hEk]; unfold Ls.E; omega
              have hn3 : ¬ ES = Ek := fun h => hn2 h.symm
              have hn4 : ¬ EN = ES := fun h => hn1 h.symm
              have hn5 : ¬ ES = B0 := by omega
              have hn6 : ¬ ES = B1 := by omega
              have C22 : Hid (∀ W, L3 W7 W3.heap.size ES EN n cs rs k W → W.cell? ⟨B0, k, none⟩ = some (.int .i64 x) → W.cell? ⟨B1, k, none⟩ = some (.int .i64 y) → Calls Try.prog 22 #[.int .i64 x, .int .i64 y] W fun e w' => e = .returned (.pointer (some ⟨Ek, 0, none⟩)) ∧ NR B0 B1 ES EN k Ek Nk x y w' ∧
                Hid (L3 W7 W3.heap.size ES EN n cs rs (k + 1) ((w'.setCell ⟨ES, k, none⟩ (.pointer (some ⟨Ek, 0, none⟩))).setCell ⟨EN, k, none⟩ (.pointer (some ⟨Nk, 0, none⟩))))) := fun W h e0 e1 =>
                new_round h hlt (by omega) (by omega) hn1 x y hx.symm hy.symm hB0 hB1 e0 e1 Ek Nk hEk hNk
              have C23 := hid (fun W h => end_any Ek (.pointer (some ⟨Nk, 0, none⟩)) W h)
              clear hx hy hEk hNk a1 a3 hszr
              have hi1 : (k : Int) < (n : Int) := by omega
              go_wp2_with fail
              go_region_held3 (fun w' => w'.cell? ⟨B0, k, none⟩ = some (.int .i64 x) ∧ w'.cell? ⟨B1, k, none⟩ = some (.int .i64 y)) (go_keep) (first | (go_at_call_of 22 (Value.int IntKind.i64 x); refine (C22.out _ HL.out.drew k0 k1).mono ?_; rintro e w1 ⟨rfl, ⟨c0, c1, e0, ef, n0, nf, ee⟩, HF⟩))
              go_wp2_with (go_at_call 23; refine (C23.out _ ((cOther (addr_ne (.inl hn3))).trans ee)).mono ?_; rintro e w' ⟨rfl, hw⟩; obtain rfl := hw.symm; clear hw)
              go_roundg (n - (k + 1))
              case measure => omega
              case rel => exact ⟨k + 1, by go_num, by omega, rfl, HF⟩
            · obtain rfl : n = k := by omega
              have C24 : Hid (Calls Try.prog 24 #[.slice (some ⟨ES, 0, none⟩) n n] wr fun e w' => ∃ (H : Nat) (c : Nat → Nat), e = .returned (.pointer (some ⟨H, 0, none⟩)) ∧ Hid (LF wr w' W7.heap.size n cs rs H c)) := by
                  refine (zzList_any ES W7.heap.size n cs rs wr hn (HL.out.pre (by omega)) HNN.out (fun j _ => HM0.out j) (fun j _ => HM1.out j)).mono ?_
                  intro e w' h
                  exact h.facts (by rw [HL.out.size]; omega) HNN.out (by rw [HPS.out]; exact HD.out trivial)
              go_wp2_with (first | (go_at_call 24; refine C24.out.mono ?_; rintro e W8 ⟨H, c, rfl, HLF⟩; have h2 := HLF.out.h2; have hnx := HLF.out.c0) | (go_at_call 25; refine (prev_any _ _ _ h2).mono ?_; rintro e w' ⟨rfl, hw⟩; obtain rfl := hw.symm; clear hw) | (at_make; refine wpList_make_own _ rfl (.const (.int .i64 0)) (.tmp 120) 33 rfl W8.heap.size 23 i2 (.pointer none) 1 Try.underlying33 gi gz0 gz1 _ _ _ (2 * n) rfl rfl (by omega) (by rw [gz2]; omega) (by unfold maxLen; omega) (by omega) ?_; intro W9 ho9 hg9; have hb9 : Below W8.heap.size W8 W9 := (Below.refl _ _).grown hg9 (Nat.le_refl _) (fun k hk => by cases hk)))
              have hszr := HL.out.size
              have hb37 : Below W3.heap.size W3 wr := HB73.out.trans ⟨HL.out.os, HL.out.tape, HL.out.output, by omega, fun b hb => HL.out.keep b (by omega) (by omega) (by omega)⟩
              have hb38 : Below W3.heap.size W3 W8 := hb37.trans (HLF.out.bel.mono (by omega))
              have HFR : Hid (Below w.heap.size w W8) := hbw.trans (hb38.mono hbw.size)
              have RES : Hid (∀ j, j < n → W8.cell? ⟨ES, j, none⟩ = some (.pointer (some ⟨Ls.E W7.heap.size j, 0, none⟩))) := fun j hj => by
                rw [HLF.out.bel.cell (p := ⟨ES, j, none⟩) (by show ES < _; omega), HL.out.es.cellAt j (by omega), rowP_get _ _ _ hj]
              have REN : Hid (∀ j, j < n → W8.cell? ⟨EN, j, none⟩ = some (.pointer (some ⟨Ls.N W7.heap.size j, 0, none⟩))) := fun j hj => by
                rw [HLF.out.bel.cell (p := ⟨EN, j, none⟩) (by show EN < _; omega), HL.out.en.cellAt j (by omega), rowP_get _ _ _ hj]
              have RCS : Hid (∀ j, j < n → b0 = some ⟨B0, 0, none⟩ ∧ W8.cell? ⟨B0, j, none⟩ = some (.int .i64 (cs.getD j 0)) ∧ B0 < W8.heap.size) := fun j hj => by
                obtain ⟨q1, q2, q3⟩ := HR0.out j hj
                exact ⟨q1, (hb38.cell (p := ⟨B0, j, none⟩) q3).trans q2, by have := hb38.size; omega⟩
              have RRS : Hid (∀ j, j < n → b1 = some ⟨B1, 0, none⟩ ∧ W8.cell? ⟨B1, j, none⟩ = some (.int .i64 (rs.getD j 0)) ∧ B1 < W8.heap.size) := fun j hj => by
                obtain ⟨q1, q2, q3⟩ := HR1.out j hj
                exact ⟨q1, (hb38.cell (p := ⟨B1, j, none⟩) q3).trans q2, by have := hb38.size; omega⟩
              have RPS : Hid (∀ j, j < ps.length → W8.cell? ⟨W3.heap.size, j, none⟩ = some (.int .i64 (ps.getD j 0))) := fun j hj => by
                rw [HLF.out.bel.cell (p := ⟨W3.heap.size, j, none⟩) (by show W3.heap.size < _; omega), World.cell?_of_block (w := W7) (a := ⟨W3.heap.size, j, none⟩) (HL.out.keep W3.heap.size (by omega) (by omega) (by omega)), HOPS.out.cellAt j (by omega)]
                simp [List.getD, hj]
              have hW8 : W7.heap.size ≤ W8.heap.size := by have := HLF.out.bel.size; omega
              clear hb37 hb38 HR0 HR1
              have NX : Hid (∀ wx, Below W8.heap.size W8 wx → ∀ i, i ≤ 2 * n → ∃ v, (i < 2 * n ∧ v = .pointer (some ⟨c (i + 1), 0, none⟩) ∨ i = 2 * n ∧ v = .pointer none) ∧ wx.cell? ⟨c i, 3, none⟩ = some v) := fun wx hb i hi => by
                rcases Nat.lt_or_ge i (2 * n) with h | h
                · exact ⟨_, .inl ⟨h, rfl⟩, (hb.cell (p := ⟨c i, 3, none⟩) (HLF.out.lt i hi)).trans (HLF.out.nx i h)⟩
                · obtain rfl : i = 2 * n := by omega
                  exact ⟨_, .inr ⟨rfl, rfl⟩, (hb.cell (p := ⟨c (2 * n), 3, none⟩) (HLF.out.lt _ hi)).trans HLF.out.nxe⟩
              obtain ⟨v0, hv0, hcl0⟩ := NX.out W9 hb9 0 (by omega)
              rw [hnx] at hcl0
              have HV0 := hid hv0
              have HO9 := hid ho9
              have HB9 := hid hb9
              have HC0 := hid hnx
              clear hv0 ho9 hb9 hnx C24 hg9
              refine (next_any H v0 W9 hcl0).mono ?_
              rintro e w' ⟨rfl, hw⟩
              obtain rfl := hw.symm
              clear hw hcl0
              go_wp2_with fail
              go_loopg [13, 14] (2 * n) (fun g s13 s14 wx => ∃ (k : Nat), s13 = .slice (some ⟨W8.heap.size, 0, none⟩) k (2 * n) ∧ (k < 2 * n ∧ s14 = .pointer (some ⟨c (k + 1), 0, none⟩) ∨ k = 2 * n ∧ s14 = .pointer none) ∧ g = 2 * n - k ∧ Hid (wx.ownsRow W8.heap.size 23 1 (.slice (some ⟨W8.heap.size, 0, none⟩) k (2 * n)) k ((List.range k).map fun j => .pointer (some ⟨c (j + 1), 0, none⟩)) ∧ Below W8.heap.size W8 wx))
              case atStart => exact ⟨0, rfl, HV0.out, rfl, HO9.out, HB9.out⟩
              case round =>
                obtain ⟨k, rfl, hs14, rfl, HG⟩ := hrel
                rcases hs14 with ⟨hk, rfl⟩ | ⟨hk, rfl⟩
                · obtain ⟨hog, hbg⟩ := HG.out
                  have hszg := hbg.size
                  go_wp2_with (at_builtin; refine wpList_append_fits _ rfl (.tmp 133) (.tmp 135) 33 rfl W8.heap.size 23 i2 1 Try.underlying33 gi gz1 W8.heap.size k (2 * n) _ rfl (hog.alloc _) ⟨wr.heap.size, 0, none⟩ 1 1 [.pointer (some ⟨c (k + 1), 0, none⟩)] rfl rfl ?f1 ?f2 ?f3 ?_)
                  case f1 => exact one_new _ _ _
                  case f2 => intro u hu; simp at hu; subst hu; rfl
                  case f3 => omega
                  intro w10 ho10 hg10
                  have hb10 : Below W8.heap.size W8 w10 := (hbg.alloc hszg _).grown hg10 (by simp; omega) (fun k hk => by cases hk; exact Nat.le_refl _)
                  obtain ⟨v1, hv1, hcl1⟩ := NX.out w10 hb10 (k + 1) (by omega)
                  have HV1 := hid hv1
                  have HG1 : Hid (w10.ownsRow W8.heap.size 23 1 (.slice (some ⟨W8.heap.size, 0, none⟩) (k + 1) (2 * n)) (k + 1) ((List.range (k + 1)).map fun j => .pointer (some ⟨c (j + 1), 0, none⟩)) ∧ Below W8.heap.size W8 w10) := ⟨by rw [List.range_succ, List.map_append]; exact ho10, hb10⟩
                  clear hv1 ho10 hg10 hb10 hog hbg HG
                  go_wp2_with (go_at_call 26; refine (next_any _ _ _ hcl1).mono ?_; rintro e w' ⟨rfl, hw⟩; obtain rfl := hw.symm; clear hw)
                  go_roundg (2 * n - (k + 1))
                  case measure => omega
                  case rel => exact ⟨k + 1, rfl, HV1.out, rfl, HG1⟩
                · subst hk
                  obtain ⟨W10, hW10⟩ : ∃ W10, W10 = wr := ⟨_, rfl⟩
                  obtain ⟨hog, hbg⟩ := HG.out
                  have GOT : Hid (∀ j, j < 2 * n → W10.cell? ⟨W8.heap.size, j, none⟩ = some (.pointer (some ⟨c (j + 1), 0, none⟩))) := fun j hj => by
                    rw [hW10, hog.cellAt j (by omega)]
                    simp [hj]
                  have PV : Hid (∀ i, i < 2 * n → W10.cell? ⟨c (i + 1), 2, none⟩ = some (.pointer (some ⟨c i, 0, none⟩))) := fun i hi => by
                    rw [hW10, hbg.cell (p := ⟨c (i + 1), 2, none⟩) (HLF.out.lt (i + 1) (by omega))]
                    exact HLF.out.pv i hi
                  have hb10 : Below W8.heap.size W8 W10 := by rw [hW10]; exact hbg
                  have HB10 := hid hb10
                  have HFR2 : Hid (Below w.heap.size w W10) := HFR.out.trans (hb10.mono (by have := HFR.out.size; have := hbw.size; omega))
                  subst hW10
                  clear hog hbg HG hb10 NX HV0 HO9 HB9
                  go_wp2_with fail
                  go_loopg [15, 16] (2 * n) (fun g s15 s16 wx => ∃ (k : Nat), s15 = .int .i64 k ∧ k ≤ 2 * n ∧ g = 2 * n - k ∧ W10 = wx)
                  case atStart => exact ⟨0, rfl, by omega, rfl, rfl⟩
                  case round =>
                    obtain ⟨k, rfl, hk, rfl, rfl⟩ := hrel
                    by_cases hlt : k < 2 * n
                    · have g1 := GOT.out k hlt
                      have g2 := PV.out k hlt
                      cases k with
                      | zero =>
                        rw [HC0.out] at g2
                        generalize c (0 + 1) = c1 at g1 g2
                        go_wp2_with (go_at_call 25; refine (prev_any _ _ _ g2).mono ?_; rintro e w' ⟨rfl, hw⟩; obtain rfl := hw.symm; clear hw)
                        go_roundg (2 * n - 1)
                        case measure => omega
                        case rel => exact ⟨1, rfl, by omega, rfl, rfl⟩
                      | succ k =>
                        have g3 := GOT.out k (by omega)
                        generalize c (k + 1 + 1) = c1 at g1 g2
                        generalize c (k + 1) = c2 at g2 g3
                        go_wp2_with (go_at_call 25; refine (prev_any _ _ _ g2).mono ?_; rintro e w' ⟨rfl, hw⟩; obtain rfl := hw.symm; clear hw)
                        go_roundg (2 * n - (k + 2))
                        case measure => omega
                        case rel => exact ⟨k + 2, by go_num, by omega, rfl, rfl⟩
                    · obtain rfl : 2 * n = k := by omega
                      have hop0 : (Ls.opn W7.heap.size rs 0).length = 0 := rfl
                      have CRK : Hid (∀ x W, W.heap = W10.heap → Calls Try.prog 27 #[.slice (some ⟨W3.heap.size, 0, none⟩) ps.length (2 * n), .int .i64 x] W fun e w' => e = .returned (.int .i64 ((ps.countP (fun y => decide (y < x)) : Nat) : Int)) ∧ w' = W) := fun x W hW =>
                        rank_any W3.heap.size ps.length (2 * n) ps x _ (by omega) rfl (by omega) (fun i hi => (World.cell?_of_block (w := W10) (a := ⟨W3.heap.size, i, none⟩) (by rw [hW])).trans ((HB10.out.cell (p := ⟨W3.heap.size, i, none⟩) (by show W3.heap.size < _; omega)).trans (RPS.out i hi)))
                      go_wp2_with fail
                      go_loopg [18, 19] n (fun g s18 s19 wx => ∃ (k o : Nat), s18 = .int .i64 o ∧ s19 = .int .i64 k ∧ k ≤ n ∧ g = n - k ∧ Hid (o = (Ls.opn W7.heap.size rs k).length) ∧ Hid (wx.heap = W10.heap ∧ wx.os = W10.os ∧ wx.tape = W10.tape ∧ wx.output = W10.output))
                      case atStart => exact ⟨0, 0, rfl, rfl, by omega, rfl, rfl, rfl, rfl, rfl, rfl⟩
                      case round =>
                        obtain ⟨k, o, rfl, rfl, hk, rfl, HO, HA⟩ := hrel
                        have hcw : ∀ b j, wr.cell? ⟨b, j, none⟩ = W10.cell? ⟨b, j, none⟩ := fun b j => World.cell?_of_block (w := W10) (a := ⟨b, j, none⟩) (by rw [HA.out.1])
                        by_cases hlt : k < n
                        · obtain ⟨rfl, a1, a2⟩ := RCS.out k hlt
                          obtain ⟨rfl, a3, a4⟩ := RRS.out k hlt
                          have d0 := (hcw _ _).trans <| (HB10.out.cell (p := ⟨B0, k, none⟩) a2).trans a1
                          have d1 := (hcw _ _).trans <| (HB10.out.cell (p := ⟨B1, k, none⟩) a4).trans a3
                          have d2 := (hcw _ _).trans <| (HB10.out.cell (p := ⟨ES, k, none⟩) (by show ES < _; omega)).trans (RES.out k hlt)
                          have d3 := (hcw _ _).trans <| (HB10.out.cell (p := ⟨EN, k, none⟩) (by show EN < _; omega)).trans (REN.out k hlt)
                          obtain ⟨r1, r2, r3, r4⟩ := HLF.out.rk k hlt
                          rw [HPS.out] at r1 r2 r3 r4
                          have d4 := (hcw _ _).trans (GOT.out _ r1)
                          rw [r2] at d4
                          have HON : Hid ((Ls.opn W7.heap.size rs (k + 1)).length = o + if 0 ≤ rs.getD k 0 then 0 else 1) := by
                            show _ = _
                            rw [HO.out]
                            simp only [Ls.opn, List.length_append]
                            split <;> simp
                          have C1 := hid (CRK.out (cs.getD k 0))
                          have C2 := hid (CRK.out (rs.getD k 0))
                          have HR3 := hid r3
                          have HR4 := hid r4
                          clear r3 r4 r2 a1 a3
                          generalize cs.getD k 0 = x at *
                          generalize rs.getD k 0 = y at *
                          generalize Ls.E W7.heap.size k = Ek at *
                          generalize Ls.N W7.heap.size k = Nk at *
                          generalize ps.countP (fun y => decide (y < x)) = rx at *
                          by_cases hy : 0 ≤ y
                          · obtain ⟨e1, e2⟩ := HR3.out hy
                            have d5 := (hcw _ _).trans (GOT.out _ e1)
                            rw [e2] at d5
                            generalize ps.countP (fun z => decide (z < y)) = ry at *
                            have i1 : (rx : Int) < 2 * (n : Int) := by omega
                            have i2 : (ry : Int) < 2 * (n : Int) := by omega
                            have HON1 : Hid (o = (Ls.opn W7.heap.size rs (k + 1)).length) := by show _ = _; rw [HON.out, if_pos hy]; rfl
                            clear HR3 HR4 e2 HON CRK hcw
                            go_wp2_with fail
                            go_quiet ((go_at_call 27; exact Calls.quiet_of_same (C1.out _ HA.out.1)))
                            go_wp2_with fail
                            obtain ⟨wq, hwq⟩ : ∃ wq, wq = wr.drewN nq := ⟨_, rfl⟩
                            have HA2 : Hid (wq.heap = W10.heap ∧ wq.os = W10.os ∧ wq.tape = W10.tape ∧ wq.output = W10.output) := by rw [hwq]; exact HA.out
                            have f1 : wq.cell? ⟨B1, k, none⟩ = some (.int .i64 y) := by rw [hwq]; exact d1
                            have f3 : wq.cell? ⟨EN, k, none⟩ = some (.pointer (some ⟨Nk, 0, none⟩)) := by rw [hwq]; exact d3
                            have f5 : wq.cell? ⟨W8.heap.size, ry, none⟩ = some (.pointer (some ⟨Nk, 0, none⟩)) := by rw [hwq]; exact d5
                            rw [← hwq]
                            clear hwq d0 d1 d2 d3 d4 d5 C1
                            go_quiet ((go_at_call 27; exact Calls.quiet_of_same (C2.out _ HA2.out.1)))
                            go_wp2
                            go_roundg (n - (k + 1))
                            case measure => omega
                            case rel => exact ⟨k + 1, o, rfl, by go_num, by omega, rfl, HON1, HA2⟩
                          · obtain ⟨e1, e2⟩ := HR4.out hy
                            rw [← HO.out] at e1 e2
                            have d5 := (hcw _ _).trans (GOT.out _ e1)
                            rw [e2] at d5
                            have HON1 : Hid (o + 1 = (Ls.opn W7.heap.size rs (k + 1)).length) := by show _ = _; rw [HON.out, if_neg hy]
                            have i1 : (rx : Int) < 2 * (n : Int) := by omega
                            have i2 : (ps.length : Int) + (o : Int) < 2 * (n : Int) := by omega
                            clear HR3 HR4 e2 HON CRK hcw
                            go_wp2_with fail
                            go_quiet ((go_at_call 27; exact Calls.quiet_of_same (C1.out _ HA.out.1)))
                            go_wp2_with fail
                            go_quiet (fail)
                            go_wp2
                            go_roundg (n - (k + 1))
                            case measure => omega
                            case rel => exact ⟨k + 1, o + 1, by go_num, by go_num, by omega, rfl, HON1, HA⟩
                        · obtain rfl : n = k := by omega
                          go_wp2
                          go_ret
                          exact ⟨rfl, ⟨HA.out.2.1.trans HFR2.out.os, HA.out.2.2.1.trans HFR2.out.tape, HA.out.2.2.2.trans HFR2.out.output, by rw [HA.out.1]; exact HFR2.out.size, fun k hk => by rw [HA.out.1]; exact HFR2.out.block k hk⟩⟩

end Go.Proofs.Qxb6601677a
