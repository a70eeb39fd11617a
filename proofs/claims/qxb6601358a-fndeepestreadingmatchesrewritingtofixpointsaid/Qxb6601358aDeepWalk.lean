/-
  The walk of deepestReading (27).
-/
import Derived.Test.Qxb6601358aFixWalk
import Derived.Test.Qxb6601358aDeepOwn
namespace Go.Proofs.Qxb6601358a
open Go.ChangeShapes Go.WideShapes Go.ChangeAt Go.RowKit
open Ov Deep
set_option linter.unusedVariables false

/-- The stack ends with a percent-encoding. -/
def Pct (ys : List Int) : Prop := 3 ≤ ys.length ∧ ys.getD (ys.length - 3) 0 = 37 ∧ Hex (ys.getD (ys.length - 2) 0) ∧ Hex (ys.getD (ys.length - 1) 0)

theorem pct_sfx {ys : List Int} (h : Pct ys) : Sfx ys (ys.take (ys.length - 3)) (hv (ys.getD (ys.length - 2) 0) * 16 + hv (ys.getD (ys.length - 1) 0)) := by
  obtain ⟨h1, h2, h3, h4⟩ := h
  refine ⟨ys.drop (ys.length - 3), (List.take_append_drop _ _).symm, .inl ⟨_, _, h3, h4, ?_, rfl⟩⟩
  rw [Dot.drop_cons ys _ (by omega), Dot.drop_cons ys _ (by omega), Dot.drop_cons ys _ (by omega), h2, List.drop_of_length_le (by omega)]
  rw [show ys.length - 3 + 1 = ys.length - 2 from by omega, show ys.length - 2 + 1 = ys.length - 1 from by omega]

theorem ends_sfx {ys : List Int} {c : Int} {k : Nat} (h : Ov.Ends ys c k) : Sfx ys (ys.take (ys.length - k)) c ∧ k ≤ ys.length ∧ 2 ≤ k := by
  obtain ⟨h0, h1, h2, h3, p, rfl⟩ := h
  have hl := enc_length c k h2 h3
  refine ⟨⟨enc c k, ?_, .inr ⟨k, h0, h1, h2, h3, rfl⟩⟩, by simp [hl], h2⟩
  have e : (p ++ enc c k).length - k = p.length := by simp [hl]
  rw [e, List.take_left]

theorem none_sfx {ys : List Int} (h1 : ¬ Pct ys) (h2 : ∀ c k, ¬ Ov.Ends ys c k) : ∀ p c, ¬ Sfx ys p c := by
  rintro p c ⟨l, rfl, hr⟩
  rcases hr with ⟨a, b, ha, hb, rfl, rfl⟩ | ⟨n, k0, k1, k2, k3, rfl⟩
  · refine h1 ⟨by simp, ?_, ?_, ?_⟩
    · have := getD_last p [37, a, b] 2 (by simp)
      rw [show (p ++ [37, a, b]).length - 3 = (p ++ [37, a, b]).length - 1 - 2 from by simp, this]; rfl
    · have := getD_last p [37, a, b] 1 (by simp)
      rw [show (p ++ [37, a, b]).length - 2 = (p ++ [37, a, b]).length - 1 - 1 from by simp, this]; exact ha
    · have := last_pct p a b
      rw [this]; exact hb
  · exact h2 c n ⟨k0, k1, k2, k3, p, rfl⟩

/-- What deepestReading leaves. -/
def DeepPost (s : ByteArray) (C B : Nat) (og : List Int) (base : Nat) (w : World) (ao : Option Addr) (v : Value) (w' : World) : Prop :=
  ∃ xs : List Int, Rdg (sb s) [] xs ∧ xs.length ≤ s.size ∧ Kp base B w w' ∧
    ((v = .slice none 0 0 ∧ xs = [] ∧ s.size = 0 ∧ ao = none) ∨ ∃ g cap, v = .slice (some ⟨g, 0, none⟩) xs.length cap ∧ Own s.size C B og base w' g cap xs ∧ (ao = none → s.size ≠ 0))

theorem rd_at {w : World} {g : Nat} {xs : List Int} (h : Rd w (some ⟨g, 0, none⟩) xs) (i : Nat) (hi : i < xs.length) : w.cell? ⟨g, i, none⟩ = some (.int .u8 (xs.getD i 0)) := by
  obtain ⟨b, off, hab, hc⟩ := h i hi
  simp only [Option.some.injEq, Addr.mk.injEq, and_true] at hab
  obtain ⟨rfl, rfl⟩ := hab
  rw [Nat.zero_add] at hc
  exact hc

theorem ret_any {a b : Value} (h : a = b) : Ending.returned a = .returned b := by rw [h]

set_option maxHeartbeats 4000000 in
set_option maxRecDepth 20000 in
theorem deep_any (s : ByteArray) (C B : Nat) (og : List Int) (base : Nat) (w : World) (ao : Option Addr) (hs : s.size ≤ 4096) (hbase : base ≤ w.heap.size)
    (hbuf : (ao = none ∧ C = 0) ∨ (ao = some ⟨B, 0, none⟩ ∧ Own s.size C B og base w B C [])) :
    Calls Try.prog 27 #[.slice ao C C, .string s] w fun e w' => ∃ v, e = .returned v ∧ DeepPost s C B og base w ao v w' := by
  go_enter Try.func27, Try.ntmps27
  go_wp2_with fail
  go_loopg [5, 6] s.size (fun g s5 s6 wx => ∃ (i : Nat) (xs : List Int), s6 = .int .i64 i ∧ i ≤ s.size ∧ g = s.size - i ∧ xs.length ≤ i ∧ Byt xs ∧ Kp base B w wx ∧ Hid (∀ t, Rdg (sb s) [] t ↔ Rdg ((sb s).drop i) xs t) ∧
      ((s5 = .slice none 0 0 ∧ xs = [] ∧ i = 0 ∧ ao = none ∧ C = 0) ∨ ∃ b cap, s5 = .slice (some ⟨b, 0, none⟩) xs.length cap ∧ Own s.size C B og base wx b cap xs ∧ Hid (ao = none → i ≠ 0)))
  case atStart =>
    refine ⟨0, [], rfl, by omega, rfl, by simp, fun z hz => by simp at hz, Kp.refl _ _ _, fun t => by simp, ?_⟩
    rcases hbuf with ⟨rfl, rfl⟩ | ⟨rfl, hown⟩
    · exact .inl ⟨rfl, rfl, rfl, rfl, rfl⟩
    · exact .inr ⟨B, C, rfl, hown, fun h => by cases h⟩
  case round =>
    obtain ⟨i, xs, rfl, hi, rfl, hxi, hbx, hbel, HP, hst⟩ := hrel
    have HST : Hid (_) := hst
    clear hbuf hst
    obtain ⟨W0, rfl⟩ : ∃ W0 : World, W0 = wr := ⟨_, rfl⟩
    have hW0 : base ≤ W0.heap.size := by have := hbel.size; omega
    by_cases hlt : i < s.size
    · obtain ⟨ch, hch⟩ : ∃ ch : Int, ch = (s[i].toNat : Int) := ⟨_, rfl⟩
      have hch2 : ch = (sb s).getD i 0 := by rw [sb_at s i hlt, hch]
      have hchb := (sb_byt s).at i
      rw [← hch2] at hchb
      have HD : Hid ((sb s).drop i = ch :: (sb s).drop (i + 1)) := by rw [hch2]; exact Dot.drop_cons (sb s) i (by rw [sb_length]; exact hlt)
      clear hch2
      go_upto_region 5 with fail
      go_cut [5] (fun s5 wx => ∃ b cap, s5 = .slice (some ⟨b, 0, none⟩) (xs.length + 1) cap ∧ Own s.size C B og base wx b cap (xs ++ [ch]) ∧ Kp base B w wx)
      case first =>
        rcases HST.out with ⟨rfl, rfl, rfl, rfl, rfl⟩ | ⟨b, cap, rfl, hown, hne⟩
        · go_wp2_with (at_builtin; refine wpList_push_nil s.size 0 B og base ⟨W0.heap.size, 0, none⟩ (s[0].toNat : Int) rfl _ _ rfl rfl rfl (World.cell?_alloc_at _ _ _ _ rfl) ?p2 ?p3 ?_)
          case p2 => intro h; subst h; simp at hlt
          case p3 => omega
          intro g' cap' w1 ho1 hb1
          have hbw1 : Kp base B w w1 := (hbel.alloc hW0 _).trans hb1
          go_wp2
          go_meet
          case rel => exact ⟨g', cap', rfl, by rw [hch]; exact ho1, hbw1⟩
        · go_wp2_with (at_builtin; refine wpList_push s.size C B og base b cap xs.length xs ⟨W0.heap.size, 0, none⟩ (s[i].toNat : Int) rfl _ _ rfl rfl rfl rfl (hown.alloc _) ?p4 ?p5 ?p6 ?p7 ?_)
          case p4 => simp
          case p5 => omega
          case p6 => omega
          case p7 => simp; omega
          intro g' cap' w1 ho1 hb1
          have hbw1 : Kp base B w w1 := (hbel.alloc hW0 _).trans hb1
          go_wp2
          go_meet
          case rel => exact ⟨g', cap', rfl, by rw [hch]; exact ho1, hbw1⟩
      case rest =>
        obtain ⟨b, cap, rfl, hown, hbel2⟩ := hcut
        clear HST hch
        have hbxc : Byt (xs ++ [ch]) := fun z hz => by rcases List.mem_append.1 hz with h | h; exact hbx z h; rw [List.mem_singleton] at h; rw [h]; exact hchb
        go_wp2_with fail
        go_loopg [5] (xs.length + 1) (fun g s5 wx => ∃ (ys : List Int) (b cap : Nat), s5 = .slice (some ⟨b, 0, none⟩) ys.length cap ∧ g = ys.length ∧ 1 ≤ ys.length ∧ ys.length ≤ i + 1 ∧ Byt ys ∧ Own s.size C B og base wx b cap ys ∧ Kp base B w wx ∧ Hid (∀ t, Norm (xs ++ [ch]) t ↔ Norm ys t))
        case atStart => exact ⟨xs ++ [ch], b, cap, by simp, by simp, by simp, by simp; omega, hbxc, hown, hbel2, fun t => Iff.rfl⟩
        case round =>
          clear hown hbel hbel2 hbxc
          obtain ⟨ys, b, cap, rfl, hg, hy1, hy2, hby, hown, hbel, HN⟩ := hrel
          subst hg
          obtain ⟨W1, rfl⟩ : ∃ W1 : World, W1 = wr := ⟨_, rfl⟩
          have hW1 : base ≤ W1.heap.size := by have := hbel.size; omega
          have hrd := hown.rd
          go_upto_region 7 with fail
          go_cut [51] (fun s51 wx => W1 = wx ∧ ∃ t : Bool, s51 = .bool t ∧ Hid (t = true ↔ Pct ys))
          case first =>
            by_cases h3 : 3 ≤ ys.length
            · have hc3 := rd_at hrd (ys.length - 3) (by omega)
              have hc2 := rd_at hrd (ys.length - 2) (by omega)
              have hc1 := rd_at hrd (ys.length - 1) (by omega)
              have HPE : Hid (Pct ys ↔ ys.getD (ys.length - 3) 0 = 37 ∧ Hex (ys.getD (ys.length - 2) 0) ∧ Hex (ys.getD (ys.length - 1) 0)) := ⟨fun h => h.2, fun h => ⟨h3, h⟩⟩
              generalize ys.getD (ys.length - 3) 0 = x at hc3 HPE
              generalize ys.getD (ys.length - 2) 0 = y at hc2 HPE
              generalize ys.getD (ys.length - 1) 0 = z at hc1 HPE
              have e3 : ((ys.length : Int) - 3).toNat = ys.length - 3 := by omega
              have e2 : ((ys.length : Int) - 2).toNat = ys.length - 2 := by omega
              have e1 : ((ys.length : Int) - 1).toNat = ys.length - 1 := by omega
              by_cases hx : x = 37
              · subst hx
                by_cases hy : Hex y
                · have C1 : Hid (∀ w, Calls Try.prog 29 #[.int .u8 y] w fun e w' => e = .returned (.bool true) ∧ w' = w) := fun w => isHex_yes y w hy
                  by_cases hz : Hex z
                  · have C2 : Hid (∀ w, Calls Try.prog 29 #[.int .u8 z] w fun e w' => e = .returned (.bool true) ∧ w' = w) := fun w => isHex_yes z w hz
                    go_wp2_with fail
                    refine (C1.out _).mono ?_
                    rintro e w' ⟨rfl, rfl⟩
                    go_wp2_with fail
                    refine (C2.out _).mono ?_
                    rintro e w' ⟨rfl, rfl⟩
                    go_wp2_with fail
                    go_meet
                    case rel => exact ⟨rfl, true, rfl, ⟨fun _ => HPE.out.2 ⟨by first | rfl | trivial, hy, hz⟩, fun _ => rfl⟩⟩
                  · have C2 : Hid (∀ w, Calls Try.prog 29 #[.int .u8 z] w fun e w' => e = .returned (.bool false) ∧ w' = w) := fun w => isHex_no z w hz
                    go_wp2_with fail
                    refine (C1.out _).mono ?_
                    rintro e w' ⟨rfl, rfl⟩
                    go_wp2_with fail
                    refine (C2.out _).mono ?_
                    rintro e w' ⟨rfl, rfl⟩
                    go_wp2_with fail
                    go_meet
                    case rel => exact ⟨rfl, false, rfl, ⟨fun h => (by cases h), fun h => absurd (HPE.out.1 h).2.2 hz⟩⟩
                · have C1 : Hid (∀ w, Calls Try.prog 29 #[.int .u8 y] w fun e w' => e = .returned (.bool false) ∧ w' = w) := fun w => isHex_no y w hy
                  go_wp2_with fail
                  refine (C1.out _).mono ?_
                  rintro e w' ⟨rfl, rfl⟩
                  go_wp2_with fail
                  go_meet
                  case rel => exact ⟨rfl, false, rfl, ⟨fun h => (by cases h), fun h => absurd (HPE.out.1 h).2.1 hy⟩⟩
              · have gx : (x == 37) = false := by simpa using hx
                go_wp2_with fail
                go_meet
                case rel => exact ⟨rfl, false, rfl, ⟨fun h => (by cases h), fun h => absurd (HPE.out.1 h).1 hx⟩⟩
            · go_wp2
              go_meet
              case rel => exact ⟨rfl, false, rfl, ⟨fun h => (by cases h), fun h => absurd h.1 h3⟩⟩
          case rest =>
            obtain ⟨rfl, t, rfl, HPC⟩ := hcut
            cases t with
            | true =>
              have hP : Pct ys := HPC.out.1 rfl
              have HSX := pct_sfx hP
              obtain ⟨h3, -, hhy, hhz⟩ := hP
              have hc2 := rd_at hrd (ys.length - 2) (by omega)
              have hc1 := rd_at hrd (ys.length - 1) (by omega)
              generalize ys.getD (ys.length - 2) 0 = y at hc2 hhy HSX
              generalize ys.getD (ys.length - 1) 0 = z at hc1 hhz HSX
              have hvy := hv_lt y hhy
              have hvz := hv_lt z hhz
              have CY := fun w => unhex_any y w hhy
              have CZ := fun w => unhex_any z w hhz
              generalize hv y = u at *
              generalize hv z = v at *
              have C1 : Hid (∀ w, Calls Try.prog 30 #[.int .u8 y] w fun e w' => e = .returned (.int .u8 u) ∧ w' = w) := CY
              have C2 : Hid (∀ w, Calls Try.prog 30 #[.int .u8 z] w fun e w' => e = .returned (.int .u8 v) ∧ w' = w) := CZ
              have HSF : Hid (Sfx ys (ys.take (ys.length - 3)) (u * 16 + v)) := HSX
              clear CY CZ HSX HPC
              have e3 : ((ys.length : Int) - 3).toNat = ys.length - 3 := by omega
              have e2 : ((ys.length : Int) - 2).toNat = ys.length - 2 := by omega
              have e1 : ((ys.length : Int) - 1).toNat = ys.length - 1 := by omega
              have hor := or_u8' u v hvy.1 hvy.2 hvz.1 hvz.2
              have hcp := hown.2.1
              have j3 : IntKind.i64.wrap ((ys.length : Int) - 3) = (ys.length : Int) - 3 := by simp only [IntKind.wrap_i64]; omega
              have j2 : IntKind.i64.wrap ((ys.length : Int) - 2) = (ys.length : Int) - 2 := by simp only [IntKind.wrap_i64]; omega
              have j1 : IntKind.i64.wrap ((ys.length : Int) - 1) = (ys.length : Int) - 1 := by simp only [IntKind.wrap_i64]; omega
              have jw : IntKind.u8.wrap (u * 16) = u * 16 := by rw [IntKind.wrap_u8']; omega
              have hbs := hown.block.2
              have i4 : (ys.length : Int) - 2 < (ys.length : Int) := by omega
              have i6 : (ys.length : Int) - 1 < (ys.length : Int) := by omega
              have k3 : (3 : Int) ≤ (ys.length : Int) := by omega
              have k2 : (2 : Int) ≤ (ys.length : Int) := by omega
              have k1 : (1 : Int) ≤ (ys.length : Int) := by omega
              have i2 : (ys.length : Int) - 3 ≤ (cap : Int) := by omega
              have hlt3 : (ys.take (ys.length - 3)).length = ys.length - 3 := by simp
              have Hlt3 : Hid ((ys.take (ys.length - 3)).length = ys.length - 3) := hlt3
              clear hlt3
              go_wp2_with fail
              go_region_held3 (fun w' => w'.cell? ⟨b, ys.length - 2, none⟩ = some (.int .u8 y) ∧ w'.cell? ⟨b, ys.length - 1, none⟩ = some (.int .u8 z)) (go_keep) (first | (refine step_push s.size C B og base b cap (ys.length - 3) (ys.take (ys.length - 3)) ⟨W1.heap.size, 0, none⟩ (u * 16 + v) rfl _ _ rfl rfl rfl Hlt3.out ((hown.take _ (Nat.sub_le _ _)).same (Below.heap_alloc _ _ _ hown.block.2)) (by simp) (by rw [Hlt3.out]; omega) hs (by simp; omega) ?_; intro g' cap' w5 ho5 hb5 hcl; have q2 := hcl b (ys.length - 2) (by simp; omega) (by omega); have q1 := hcl b (ys.length - 1) (by simp; omega) (by omega); clear hcl) | (go_at_call_of 30 (Value.int IntKind.u8 y); refine (C1.out _).mono ?_; rintro e w' ⟨rfl, rfl⟩) | (go_at_call_of 30 (Value.int IntKind.u8 z); refine (C2.out _).mono ?_; rintro e w' ⟨rfl, rfl⟩))
              clear q2 q1
              have hl5 : (ys.take (ys.length - 3) ++ [u * 16 + v]).length = ys.length - 3 + 1 := by rw [List.length_append, Hlt3.out]; rfl
              have hbw5 : Kp base B w w5 := ((hbel.alloc hW1 _).drew).trans hb5
              have hby5 : Byt (ys.take (ys.length - 3) ++ [u * 16 + v]) := fun z hz => by
                rcases List.mem_append.1 hz with h | h
                · exact hby z (List.mem_of_mem_take h)
                · rw [List.mem_singleton] at h; rw [h]; omega
              have HN5 : Hid (∀ t, Norm (xs ++ [ch]) t ↔ Norm (ys.take (ys.length - 3) ++ [u * 16 + v]) t) := fun t => (HN.out t).trans (norm_step HSF.out)
              clear HSF hb5 C1 C2 HN
              generalize ys.take (ys.length - 3) ++ [u * 16 + v] = zs at ho5 hl5 hby5 HN5
              have Hl5 : Hid (zs.length = ys.length - 3 + 1) := hl5
              clear hl5
              go_wp2
              go_roundg (zs.length)
              case measure => have := Hl5.out; omega
              case rel => exact ⟨zs, g', cap', by rw [Hl5.out], rfl, by have := Hl5.out; omega, by have := Hl5.out; omega, hby5, ho5, hbw5, HN5⟩
            | false =>
              have HNP : Hid (¬ Pct ys) := fun h => by have := HPC.out.2 h; cases this
              have C1 : Hid (∀ W, Rd W (some ⟨b, 0, none⟩) ys → Calls Try.prog 24 #[.slice (some ⟨b, 0, none⟩) ys.length cap] W fun e w' => ∃ (r : Int) (m : Nat), e = .returned (.tuple #[.int .u8 r, .int .i64 m]) ∧ Hid (Res ys r m) ∧ ∃ q, w' = W.drewN q) := fun W hW => ov_any _ ys.length cap ys W rfl (by omega) hown.2.1 hW hby
              clear HPC
              go_wp2_with fail
              refine (C1.out _ hrd).mono ?_
              rintro e w4 ⟨c, m, rfl, HRS, q, rfl⟩
              have hown4 : Own s.size C B og base (W1.drewN q) b cap ys := hown
              have hbel4 : Kp base B w (W1.drewN q) := ⟨hbel.os, hbel.tape, hbel.output, hbel.size, hbel.block⟩
              have hW4 : base ≤ (W1.drewN q).heap.size := hW1
              clear C1 hown hbel hW1 hrd
              generalize W1.drewN q = W4 at hown4 hbel4 hW4 ⊢
              by_cases hm : 0 < m
              · have hE : Ov.Ends ys c m := by rcases HRS.out with h | h; exact h; omega
                obtain ⟨hsx, hmy, hm2⟩ := ends_sfx hE
                have hcb : 0 ≤ c ∧ c ≤ 255 := ⟨hE.1, by have := hE.2.1; omega⟩
                have HSF : Hid (Sfx ys (ys.take (ys.length - m)) c) := hsx
                have hcp := hown4.2.1
                have Hlt3 : Hid ((ys.take (ys.length - m)).length = ys.length - m) := by unfold Hid; simp
                have hbs := hown4.block.2
                clear hE hsx HRS
                have e1 : ((ys.length : Int) - (m : Int)).toNat = ys.length - m := by omega
                go_wp2_with (at_builtin; refine wpList_push s.size C B og base b cap (ys.length - m) (ys.take (ys.length - m)) ⟨W4.heap.size, 0, none⟩ c rfl _ _ rfl rfl rfl Hlt3.out ((hown4.take _ (Nat.sub_le _ _)).alloc _) ?s1 ?s2 ?s3 ?s4 ?_)
                case s1 => simp
                case s2 => rw [Hlt3.out]; omega
                case s3 => exact hs
                case s4 => simp; omega
                intro g' cap' w5 ho5 hb5
                have hl5 : (ys.take (ys.length - m) ++ [c]).length = ys.length - m + 1 := by rw [List.length_append, Hlt3.out]; rfl
                have hbw5 : Kp base B w w5 := (hbel4.alloc hW4 _).trans hb5
                have hby5 : Byt (ys.take (ys.length - m) ++ [c]) := fun z hz => by
                  rcases List.mem_append.1 hz with h | h
                  · exact hby z (List.mem_of_mem_take h)
                  · rw [List.mem_singleton] at h; rw [h]; exact hcb
                have HN5 : Hid (∀ t, Norm (xs ++ [ch]) t ↔ Norm (ys.take (ys.length - m) ++ [c]) t) := fun t => (HN.out t).trans (norm_step HSF.out)
                clear HSF hb5 HN
                generalize ys.take (ys.length - m) ++ [c] = zs at ho5 hl5 hby5 HN5
                have Hl5 : Hid (zs.length = ys.length - m + 1) := hl5
                clear hl5
                go_wp2
                go_roundg (zs.length)
                case measure => have := Hl5.out; omega
                case rel => exact ⟨zs, g', cap', by rw [Hl5.out], rfl, by have := Hl5.out; omega, by have := Hl5.out; omega, hby5, ho5, hbw5, HN5⟩
              · obtain rfl : m = 0 := by omega
                have hno : ∀ p c, ¬ Sfx ys p c := none_sfx HNP.out (by rcases HRS.out with h | h; exact absurd h.2.2.1 (by omega); exact h.2.2)
                have HNX : Hid (∀ t, Rdg (sb s) [] t ↔ Rdg ((sb s).drop (i + 1)) ys t) := by
                  intro t
                  rw [HP.out t, HD.out]
                  constructor
                  · rintro ⟨k, hk, hr⟩
                    have := (norm_none hno).1 ((HN.out k).1 hk)
                    rw [this] at hr
                    exact hr
                  · intro hr
                    exact ⟨ys, (HN.out ys).2 ((norm_none hno).2 rfl), hr⟩
                clear hno HNP HRS HN HP HD
                go_wp2
                go_roundg (s.size - (i + 1))
                case measure => omega
                case rel => exact ⟨i + 1, ys, by go_num, by omega, rfl, hy2, hby, hbel4, HNX, .inr ⟨b, cap, rfl, hown4, fun _ => by omega⟩⟩
    · obtain rfl : i = s.size := by omega
      have HF : Hid (Rdg (sb s) [] xs) := (HP.out xs).2 (by rw [List.drop_of_length_le (by rw [sb_length]; exact Nat.le_refl _)]; exact rfl)
      rcases HST.out with ⟨rfl, rfl, h0, rfl, rfl⟩ | ⟨b, cap, rfl, hown, hne⟩
      · go_wp2
        go_ret
        exact ⟨_, rfl, [], HF.out, by simp, hbel, .inl ⟨rfl, rfl, h0, rfl⟩⟩
      · go_wp2
        go_ret
        exact ⟨_, rfl, xs, HF.out, hxi, hbel, .inr ⟨b, cap, rfl, hown, hne.out⟩⟩

end Go.Proofs.Qxb6601358a
