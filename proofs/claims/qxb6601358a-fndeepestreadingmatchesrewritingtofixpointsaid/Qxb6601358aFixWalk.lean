/-
  The walk of zzRewriteToFixpointRB1 (21).
-/
import Derived.Test.Qxb6601358aRedexAt
namespace Go.Proofs.Qxb6601358a
open Go.ChangeShapes Go.WideShapes Go.ChangeAt Go.RowKit
open Ov Deep
set_option linter.unusedVariables false

/-- The bytes of a string, as the walk reads them. -/
def sb (s : ByteArray) : List Int := s.data.toList.map fun b => (b.toNat : Int)

theorem sb_length (s : ByteArray) : (sb s).length = s.size := by simp [sb]
theorem sb_at (s : ByteArray) (k : Nat) (h : k < s.size) : (sb s).getD k 0 = (s[k].toNat : Int) := by
  have h1 : s.data.toList[k]? = some s[k] := by
    have h2 : k < s.data.toList.length := by simpa using h
    rw [List.getElem?_eq_getElem h2]
    rfl
  rw [List.getD_eq_getElem?_getD, sb, List.getElem?_map, h1]
  rfl
theorem sb_byt (s : ByteArray) : Byt (sb s) := by
  intro z hz
  obtain ⟨b, _, rfl⟩ := List.mem_map.1 hz
  have := b.toNat_lt
  simp; omega

/-- What holds inside a pass over cs: ys has been written, i is the next index, ch: something was decoded. -/
def Pass (cs ys : List Int) (i : Nat) (ch : Bool) : Prop :=
  i ≤ cs.length ∧ ys.length ≤ i ∧ Byt ys ∧ (∀ t, Rdg cs [] t ↔ Rdg (ys ++ cs.drop i) [] t) ∧ (ch = true → ys.length < i) ∧ (ch = false → ys = cs.take i ∧ ∀ j, j < i → NoAt cs j)

theorem pass_start (cs : List Int) : Pass cs [] 0 false :=
  ⟨by omega, by simp, fun z hz => by simp at hz, fun t => by simp, fun h => (by cases h), fun _ => ⟨by simp, fun j hj => by omega⟩⟩

theorem pass_found {cs ys : List Int} {i m : Nat} {ch : Bool} {c : Int} (h : Pass cs ys i ch) (hm : 0 < m) (hr : ResAt cs i c m) : Pass cs (ys ++ [c]) (i + m) true ∧ 0 ≤ c ∧ c ≤ 255 ∧ i + m ≤ cs.length := by
  obtain ⟨h1, h2, h3, h4, h5, h6⟩ := h
  rcases hr with ⟨_, r1, l, y, r2, r3, r4⟩ | ⟨_, r1, _⟩
  · have hl := r3.len
    have hby := r3.byte
    have hy : y = cs.drop (i + m) := by
      have : (cs.drop i).drop m = y := by rw [r2, ← r4, List.drop_left]
      rw [← this, List.drop_drop]
    refine ⟨⟨r1, by simp; omega, ?_, fun t => ?_, fun _ => by simp; omega, fun h => by cases h⟩, hby.1, hby.2, r1⟩
    · intro z hz
      rcases List.mem_append.1 hz with hz | hz
      · exact h3 z hz
      · simp at hz; subst hz; exact hby
    · rw [h4 t, r2, rdg_replace r3 ys y [] t, hy]
  · omega

theorem pass_none {cs ys : List Int} {i : Nat} {ch : Bool} (h : Pass cs ys i ch) (hb : Byt cs) (hi : i < cs.length) (hr : NoAt cs i) : Pass cs (ys ++ [cs.getD i 0]) (i + 1) ch := by
  obtain ⟨h1, h2, h3, h4, h5, h6⟩ := h
  refine ⟨hi, by simp; omega, ?_, fun t => ?_, fun h => by have := h5 h; simp; omega, fun h => ?_⟩
  · intro z hz
    rcases List.mem_append.1 hz with hz | hz
    · exact h3 z hz
    · rw [List.mem_singleton] at hz; rw [hz]; exact hb.at i
  · rw [h4 t, Dot.drop_cons cs i hi, List.append_assoc]
    rfl
  · obtain ⟨e1, e2⟩ := h6 h
    refine ⟨?_, fun j hj => ?_⟩
    · rw [List.take_succ_eq_append_getElem hi, ← e1]
      simp [hi]
    · by_cases e : j = i
      · subst e; exact hr
      · exact e2 j (by omega)

set_option maxHeartbeats 2000000 in
theorem fix_any (s : ByteArray) (w : World) (hs : s.size ≤ 4096) :
    Calls Try.prog 21 #[.string s] w fun e w' => ∃ (g n cap : Nat) (cs : List Int), e = .returned (.slice (some ⟨g, 0, none⟩) n cap) ∧ cs.length = n ∧ n ≤ 4096 ∧ w.heap.size ≤ g ∧ Rd w' (some ⟨g, 0, none⟩) cs ∧ Hid (Rdg (sb s) [] cs) ∧ Below w.heap.size w w' := by
  obtain ⟨i0, hi, hz0, hz1, hz2⟩ := info_parts Try.info5
  obtain ⟨n, hn⟩ : ∃ n, n = s.size := ⟨_, rfl⟩
  have hsl := sb_length s
  go_enter Try.func21, Try.ntmps21
  go_wp2_with (at_make; refine wpList_make_full _ rfl _ _ 22 rfl w.heap.size 5 i0 (.int .u8 0) 1 Try.underlying22 hi hz0 hz1 .i64 .i64 _ _ s.size rfl rfl rfl rfl ?m1 ?m2 (Nat.le_refl _) ?_)
  case m1 => rw [hz2]; omega
  case m2 => unfold maxLen; omega
  intro w1 hown hgrow
  have e0 : (madeCells #[Value.int .u8 0] s.size).toList = (cp (sb s) s.size 0).map (Value.int .u8) := by
    rw [cp_zero]
    simp only [toList_madeCells_one, List.map_replicate]
  rw [e0] at hown
  have hb1 : Below w.heap.size w w1 := (Below.refl _ _).grown hgrow (Nat.le_refl _) (by intro k hk; cases hk)
  have hs1 : w.heap.size < w1.heap.size := (hown.lt w.heap.size rfl).2
  have Hsl : Hid ((sb s).length = s.size) := hsl
  clear e0 hgrow hsl hn n
  go_wp2_with fail
  go_loopg [4] s.size (fun g s4 wr => ∃ k : Nat, k ≤ s.size ∧ g = s.size - k ∧ s4 = .int .i64 k ∧ wr.ownsRow w.heap.size 5 1 (.slice (some ⟨w.heap.size, 0, none⟩) s.size s.size) s.size ((cp (sb s) s.size k).map (Value.int .u8)) ∧ Below w.heap.size w wr ∧ w.heap.size < wr.heap.size)
  case atStart => exact ⟨0, Nat.zero_le _, rfl, rfl, hown, hb1, hs1⟩
  case round =>
    obtain ⟨k, hk, rfl, rfl, hown, hb1, hs1⟩ := hrel
    by_cases hlt : k < s.size
    · have hfz := hown.frozenAt k
      have hst := hown.cellAt k (by omega)
      have hlen : ((cp (sb s) s.size k).map (Value.int .u8)).length = s.size := by have := hown.1; omega
      rw [List.getElem?_eq_getElem (by omega)] at hst
      have R := hown.stored k (.int .u8 ((sb s).getD k 0))
      rw [← List.map_set, cp_succ (sb s) s.size k hlt (by rw [Hsl.out]; exact hlt), sb_at s k hlt] at R
      go_wp2
      go_roundg (s.size - (k + 1))
      case measure => omega
      case rel => exact ⟨k + 1, by omega, rfl, by go_num, R.1, hb1.setCell (Nat.le_refl _) _, by simpa [World.setCell] using hs1⟩
    · obtain rfl : k = s.size := by omega
      rw [cp_end, List.take_of_length_le (by rw [Hsl.out]; exact Nat.le_refl _)] at hown
      have hr0 := Rd.of_own (v := .bool true) hown
      clear hown
      go_wp2_with fail
      go_loopg [3] s.size (fun g s3 wx => ∃ (b n cap : Nat) (cs : List Int), s3 = .slice (some ⟨b, 0, none⟩) n cap ∧ n = g ∧ n ≤ 4096 ∧ Rd wx (some ⟨b, 0, none⟩) cs ∧ Hid (cs.length = n) ∧ Byt cs ∧ Below w.heap.size w wx ∧ Hid (∀ t, Rdg (sb s) [] t ↔ Rdg cs [] t))
      case atStart => exact ⟨w.heap.size, s.size, s.size, sb s, rfl, rfl, hs, hr0, Hsl, sb_byt s, hb1, fun t => Iff.rfl⟩
      case round =>
        obtain ⟨b, n, cap, cs, rfl, rfl, hn, hrc, Hl, hbc, hbw, HP⟩ := hrel
        clear hr0 hb1 hs1
        obtain ⟨W0, rfl⟩ : ∃ W0 : World, W0 = wr := ⟨_, rfl⟩
        go_wp2_with (at_make; refine wpList_make_own _ rfl _ _ 22 rfl W0.heap.size 5 i0 (.int .u8 0) 1 Try.underlying22 hi hz0 hz1 .i64 .i64 _ n rfl rfl rfl ?m3 ?m4 (Nat.le_refl _) ?_)
        case m3 => rw [hz2]; omega
        case m4 => unfold maxLen; omega
        intro w2 hown2 hgrow2
        have hb2 : Below W0.heap.size W0 w2 := (Below.refl _ _).grown hgrow2 (Nat.le_refl _) (by intro k hk; cases hk)
        have hsw := hbw.size
        have hlt2 : W0.heap.size < w2.heap.size := (hown2.lt W0.heap.size rfl).2
        clear hgrow2
        go_upto_block 4 with fail
        go_cut [5, 6] (fun s5 s6 wx => ∃ (ys : List Int) (ch : Bool), s5 = .slice (some ⟨W0.heap.size, 0, none⟩) ys.length n ∧ s6 = .bool ch ∧ wx.ownsRow W0.heap.size 5 1 (.slice (some ⟨W0.heap.size, 0, none⟩) ys.length n) ys.length (ys.map (Value.int .u8)) ∧ Below W0.heap.size W0 wx ∧ Hid (Pass cs ys n ch))
        case first =>
          go_wp2_with fail
          go_loopg [5, 6, 7] n (fun g s5 s6 s7 wx => ∃ (ys : List Int) (ch : Bool) (i : Nat), s5 = .slice (some ⟨W0.heap.size, 0, none⟩) ys.length n ∧ s6 = .bool ch ∧ s7 = .int .i64 i ∧ i ≤ n ∧ ys.length ≤ i ∧ g + i = n ∧ wx.ownsRow W0.heap.size 5 1 (.slice (some ⟨W0.heap.size, 0, none⟩) ys.length n) ys.length (ys.map (Value.int .u8)) ∧ Below W0.heap.size W0 wx ∧ W0.heap.size < wx.heap.size ∧ Hid (Pass cs ys i ch))
          case atStart => exact ⟨[], false, 0, rfl, rfl, rfl, by omega, by simp, by omega, hown2, hb2, hlt2, pass_start cs⟩
          case round =>
            obtain ⟨ys, ch, i, rfl, rfl, rfl, hin, hyi, hgi, hown3, hb3, hlt3, HPS⟩ := hrel
            clear hown2 hb2 hlt2
            by_cases hlt : i < n
            · go_wp2_with fail
              have C1 : Hid (∀ W, Rd W (some ⟨b, 0, none⟩) cs → Calls Try.prog 28 #[.slice (some ⟨b, 0, none⟩) n cap, .int .i64 (i : Int)] W fun e w' => ∃ (r : Int) (m : Nat), e = .returned (.tuple #[.int .u8 r, .int .i64 m]) ∧ Hid (ResAt cs i r m) ∧ ∃ q, w' = W.drewN q) := fun W hW => redexAt_any _ n cap i cs W Hl.out (by omega) hW hbc hlt
              have hrx : Rd wr (some ⟨b, 0, none⟩) cs := hrc.mono hb3
              refine (C1.out _ hrx).mono ?_
              rintro e w4 ⟨c, m, rfl, HRS, q, rfl⟩
              have hown4 : ((wr.drewN q)).ownsRow W0.heap.size 5 1 (.slice (some ⟨W0.heap.size, 0, none⟩) ys.length n) ys.length (ys.map (Value.int .u8)) := hown3
              have hb4 : Below W0.heap.size W0 (wr.drewN q) := ⟨hb3.os, hb3.tape, hb3.output, hb3.size, hb3.block⟩
              have hrx4 : Rd (wr.drewN q) (some ⟨b, 0, none⟩) cs := hrx
              have hlt4 : W0.heap.size < (wr.drewN q).heap.size := hlt3
              clear C1 hown3 hb3 hrx hlt3
              generalize wr.drewN q = W4 at hown4 hb4 hrx4 hlt4 ⊢
              by_cases hm : 0 < m
              · have PF := pass_found HPS.out hm HRS.out
                obtain ⟨PF, hc0, hc1, him⟩ := PF
                have HPF : Hid (Pass cs (ys ++ [c]) (i + m) true) := PF
                rw [Hl.out] at him
                clear PF HPS HRS hrx4
                go_wp2_with (at_builtin; refine wpList_append_fits _ rfl _ _ 22 rfl W0.heap.size 5 i0 1 Try.underlying22 hi hz1 W0.heap.size ys.length n _ rfl (hown4.alloc _) ⟨W4.heap.size, 0, none⟩ 1 1 [.int .u8 c] rfl rfl ?a1 ?a2 ?a3 ?_)
                case a1 => exact cell_one_new _ _ _
                case a2 => exact ints_oneCell .u8 [c]
                case a3 => omega
                intro w5 hown5 hgrow5
                have hown6 : w5.ownsRow W0.heap.size 5 1 (.slice (some ⟨W0.heap.size, 0, none⟩) (ys ++ [c]).length n) (ys ++ [c]).length ((ys ++ [c]).map (Value.int .u8)) := by
                  rw [List.length_append, List.map_append]; exact hown5
                have hb5 : Below W0.heap.size W0 w5 := (hb4.alloc (by omega) _).grown hgrow5 (by simp; omega) (by intro k hk; simp at hk; omega)
                have hlt5 : W0.heap.size < w5.heap.size := by have := hgrow5.size; simp at this; omega
                clear hown4 hb4 hlt4 hown5 hgrow5
                go_wp2
                go_roundg (n - (i + m))
                case measure => omega
                case rel => exact ⟨ys ++ [c], true, i + m, by simp, rfl, by go_num, him, by simp; omega, by omega, hown6, hb5, hlt5, HPF⟩
              · obtain rfl : m = 0 := by omega
                have hno : NoAt cs i := by rcases HRS.out with h | h; omega; exact h.2.2
                have HPF : Hid (Pass cs (ys ++ [cs.getD i 0]) (i + 1) ch) := pass_none HPS.out hbc (by rw [Hl.out]; exact hlt) hno
                obtain ⟨b', off', hab, hc⟩ := hrx4 i (by rw [Hl.out]; exact hlt)
                simp only [Option.some.injEq, Addr.mk.injEq, and_true] at hab
                obtain ⟨rfl, rfl⟩ := hab
                generalize cs.getD i 0 = c0 at hc HPF
                rw [Nat.zero_add] at hc
                clear hno HPS HRS hrx4
                go_wp2_with (at_builtin; refine wpList_append_fits _ rfl _ _ 22 rfl W0.heap.size 5 i0 1 Try.underlying22 hi hz1 W0.heap.size ys.length n _ rfl (hown4.alloc _) ⟨W4.heap.size, 0, none⟩ 1 1 [.int .u8 c0] rfl rfl ?b1 ?b2 ?b3 ?_)
                case b1 => exact cell_one_new _ _ _
                case b2 => exact ints_oneCell .u8 [c0]
                case b3 => omega
                intro w5 hown5 hgrow5
                have hown6 : w5.ownsRow W0.heap.size 5 1 (.slice (some ⟨W0.heap.size, 0, none⟩) (ys ++ [c0]).length n) (ys ++ [c0]).length ((ys ++ [c0]).map (Value.int .u8)) := by
                  rw [List.length_append, List.map_append]; exact hown5
                have hb5 : Below W0.heap.size W0 w5 := (hb4.alloc (by omega) _).grown hgrow5 (by simp; omega) (by intro k hk; simp at hk; omega)
                have hlt5 : W0.heap.size < w5.heap.size := by have := hgrow5.size; simp at this; omega
                clear hown4 hb4 hlt4 hown5 hgrow5
                go_wp2
                go_roundg (n - (i + 1))
                case measure => omega
                case rel => exact ⟨ys ++ [c0], ch, i + 1, by simp, rfl, by go_num, by omega, by simp; omega, by omega, hown6, hb5, hlt5, HPF⟩
            · obtain rfl : i = n := by omega
              go_wp2
              go_meet
              case rel => exact ⟨ys, ch, rfl, rfl, hown3, hb3, HPS⟩
        case rest =>
          obtain ⟨ys, ch, rfl, rfl, hown3, hb3, HPS⟩ := hcut
          have hr3 := Rd.of_own (v := .bool true) hown3
          have hbw3 : Below w.heap.size w wc := hbw.trans (hb3.mono hsw)
          have PS := HPS.out
          obtain ⟨p1, p2, p3, p4, p5, p6⟩ := PS
          rw [show cs.drop n = [] from List.drop_of_length_le (by rw [Hl.out]; exact Nat.le_refl _), List.append_nil] at p4
          cases ch with
          | true =>
            have hyn := p5 rfl
            have HP2 : Hid (∀ t, Rdg (sb s) [] t ↔ Rdg ys [] t) := fun t => (HP.out t).trans (p4 t)
            clear HPS p1 p2 p4 p5 p6 hown3
            go_wp2
            go_roundg (ys.length)
            case measure => omega
            case rel => exact ⟨W0.heap.size, ys.length, n, ys, rfl, rfl, by omega, hr3, rfl, p3, hbw3, HP2⟩
          | false =>
            obtain ⟨e1, e2⟩ := p6 rfl
            have hyc : ys = cs := by rw [e1, List.take_of_length_le (by rw [Hl.out]; exact Nat.le_refl _)]
            have HF : Hid (Rdg (sb s) [] ys) := (HP.out ys).2 (by rw [hyc]; exact rdg_self cs (fun j hj => e2 j (by rw [Hl.out] at hj; exact hj)))
            have hyn : ys.length ≤ 4096 := by omega
            clear HPS p1 p2 p3 p4 p5 p6 e1 e2 hyc hown3
            go_wp2
            go_ret
            exact ⟨W0.heap.size, ys.length, n, ys, rfl, rfl, hyn, hsw, hr3, HF, hbw3⟩

end Go.Proofs.Qxb6601358a
