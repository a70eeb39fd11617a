/-
  The walk of ZZNewNeeds (15).
-/
import Derived.Test.Qxb6601677aNeedsWalk
namespace Go.Proofs.Qxb6601677a
open Go.ChangeShapes Go.WideShapes Go.ChangeAt Go.RowKit
set_option linter.unusedVariables false

/-- What ZZNewNeeds leaves. -/
def ZNPost (W : World) (n : Nat) (E : Nat → Nat) (at' : Nat → Int) (K : Nat → Bool) (V : List Int) (e : Ending) (w' : World) : Prop :=
  ∃ vV vC, e = .returned (.tuple #[vV, vC, .int .i64 0]) ∧ N2 W W.heap.size n E at' K V vV vC n w'

set_option maxHeartbeats 1000000 in
theorem zzNeeds_any (S n : Nat) (E P : Nat → Nat) (at' : Nat → Int) (rs os : Nat → ByteArray) (W : World) (hn : n ≤ 4096) (h : NPre W S n E P at' rs os) :
    Calls Try.prog 15 #[.slice (some ⟨S, 0, none⟩) n n] W fun e w' => ZNPost W n E at' (fun j => kd (at' j) (rs j) (os j)) (vers (cA at' (fun j => kd (at' j) (rs j) (os j)) n)) e w' := by
  have C29 := hid (newNeeds_any S n E P at' rs os W hn h)
  clear h
  generalize (fun j => kd (at' j) (rs j) (os j)) = K at *
  generalize vers (cA at' K n) = V at *
  go_enter Try.func15, Try.ntmps15
  go_wp2_with (go_at_call 29; refine C29.out.mono ?_; rintro e w' ⟨rfl, vV, vC, HN⟩; obtain ⟨c0, c1, c2, cf, cM⟩ := HN.box.cells; clear cf)
  have HN' := hid HN
  clear HN C29
  go_quiet (fail)
  go_wp2
  go_ret3
  exact ⟨vV, vC, rfl, HN'.out.same rfl rfl rfl rfl⟩

end Go.Proofs.Qxb6601677a
