/-
  The walk of zzEndsWithRB1 (12).
-/
import Derived.Test.Qxb6601358aMem
import Derived.Test.Qxb6601358aOvPlain
import Derived.Deep.CutBlock
import Derived.Deep.DeepCutAuto
import Derived.Deep.LoopGhost
import Derived.Deep.QuietTactic
import Derived.BigQuiet
namespace Go.Proofs.Qxb6601358a
open Go.ChangeShapes Go.WideShapes Go.ChangeAt Go.RowKit
open Ov
set_option linter.unusedVariables false

/-- zs ends with ts. -/
def EndsW (zs ts : List Int) : Prop := ∃ p, zs = p ++ ts

theorem endsW_iff (zs ts : List Int) : EndsW zs ts ↔ ts.length ≤ zs.length ∧ ∀ j, j < ts.length → zs.getD (zs.length - ts.length + j) 0 = ts.getD j 0 := by
  constructor
  · rintro ⟨p, rfl⟩
    refine ⟨by simp, fun j hj => ?_⟩
    have e : (p ++ ts).length - ts.length + j = p.length + j := by simp
    rw [e]
    simp [List.getElem?_append_right]
  · rintro ⟨hl, h⟩
    refine ⟨zs.take (zs.length - ts.length), ?_⟩
    have e : zs.drop (zs.length - ts.length) = ts := by
      apply List.ext_getElem
      · simp; omega
      · intro j h1 h2
        have := h j h2
        simp only [List.getElem_drop]
        have h3 : zs.length - ts.length + j < zs.length := by omega
        simpa [h3, h2] using this
    conv => lhs; rw [← List.take_append_drop (zs.length - ts.length) zs, e]

set_option maxHeartbeats 400000 in
theorem ends_any (a b : Option Addr) (n c m d : Nat) (zs ts : List Int) (w : World) (hl : zs.length = n) (hm : ts.length = m) (hn : n ≤ 2097152) (hm2 : m ≤ 2097152) (hr : Rd w a zs) (hr2 : Rd w b ts) :
    Calls Try.prog 12 #[.slice a n c, .slice b m d] w fun e w' => ∃ r : Bool, e = .returned (.bool r) ∧ Hid (r = true ↔ EndsW zs ts) ∧ ∃ q, w' = w.drewN q := by
  by_cases hmn : m ≤ n
  · go_enter Try.func12, Try.ntmps12
    go_wp2
    go_loopg [6] m (fun g s6 wx => ∃ (k q : Nat), w.drewN q = wx ∧ k ≤ m ∧ g = m - k ∧ s6 = .int .i64 k ∧ Hid (∀ j, j < k → zs.getD (n - m + j) 0 = ts.getD j 0))
    case atStart => exact ⟨0, 0, rfl, by omega, rfl, rfl, fun j hj => by omega⟩
    case round =>
      obtain ⟨k, q, rfl, hk, rfl, rfl, HE⟩ := hrel
      by_cases hlt : k < m
      · obtain ⟨b1, o1, rfl, hc1⟩ := hr (n - m + k) (by omega)
        obtain ⟨b2, o2, rfl, hc2⟩ := hr2 k (by omega)
        obtain ⟨x, hx⟩ : ∃ x, x = zs.getD (n - m + k) 0 := ⟨_, rfl⟩
        obtain ⟨y, hy⟩ : ∃ y, y = ts.getD k 0 := ⟨_, rfl⟩
        rw [← hx] at hc1
        rw [← hy] at hc2
        have HX : Hid (x = zs.getD (n - m + k) 0) := hx
        have HY : Hid (y = ts.getD k 0) := hy
        clear hx hy
        have hix : ((n : Int) - (m : Int) + (k : Int)).toNat = n - m + k := by omega
        have hi0 : 0 ≤ (n : Int) - (m : Int) + (k : Int) := by omega
        have hi1 : (n : Int) - (m : Int) + (k : Int) < (n : Int) := by omega
        have hk0 : (k : Int) < (m : Int) := by omega
        by_cases hxy : x = y
        · subst hxy
          go_wp2
          go_quiet (fail)
          go_wp2
          go_roundg (m - (k + 1))
          case measure => omega
          case rel =>
            refine ⟨k + 1, _, rfl, by omega, rfl, by go_num, fun j hj => ?_⟩
            by_cases hjk : j = k
            · subst hjk; rw [← HX.out, ← HY.out]
            · exact HE.out j (by omega)
        · have hne : (x != y) = true := by simpa using hxy
          go_wp2
          go_quiet (fail)
          go_wp2
          go_ret
          refine ⟨false, rfl, ?_, _, World.drewN_drewN w q _⟩
          constructor
          · intro h; cases h
          · intro h
            have := ((endsW_iff zs ts).1 h).2 k (by omega)
            rw [hl, hm, ← HX.out, ← HY.out] at this
            exact absurd this hxy
      · obtain rfl : k = m := by omega
        go_wp2
        go_ret
        refine ⟨true, rfl, ?_, _, rfl⟩
        constructor
        · intro _
          rw [endsW_iff, hl, hm]
          exact ⟨hmn, HE.out⟩
        · intro _; rfl
  · go_enter Try.func12, Try.ntmps12
    go_wp2
    go_ret
    refine ⟨false, rfl, ?_, 0, rfl⟩
    constructor
    · intro h; cases h
    · intro h
      have := ((endsW_iff zs ts).1 h).1
      omega

end Go.Proofs.Qxb6601358a
