/-
  No cell of these rows narrows 'for every input' (looked for: loops, veiled, ifaces, maps, wideKeys, modest, calm, conditions, laid).
  DERIVED. THE GIVEN ROWS OF THIS SEAT. 4 by the template 'for every input the law returns true; each argument reads behind the call as it read before'; 0 by the template 'total and deterministic' (their statements: Qxb6601677aTotals.lean).
  GIVEN WITH THE SEED: the statements are not yours to turn. If you find one false, say at which input.
  Laid BY PROGRAM, IN A SANDBOX (cutbox-rows.mjs): the forced cells as the released guide's own fill.sh prints them over the translation 48eff14d353f67f8… (all of the seat's roots in one cut). By AI agents, Wed Nov 11 2026. No macro, syntax, notation, axiom, sorry.
-/
import Derived.Test.Qxb6601677aChecked
import GoSem.Claim
import GoSem.ClaimJoined
import GoSem.ClaimMapViews
import Derived.JoinedTies
import Derived.KernelRfl
namespace Go.Proofs.Qxb6601677a
/- THE CELL 'sum', in the pinned program and in every row, IS THE sha256 OF THE DUMP (.gsa) THAT Qxb6601677aProg.lean LOADS. Nothing in Lean hashes anything: it is a label: what it is worth is what the hold of that sum in a sandbox is worth. -/
noncomputable def Try.pinned : Pinned := { name := "qxb6601677a", sum := "48eff14d353f67f82191c8ee82c7771e33d379e6d7784042218e93a301575559", checked := Try.checked }
namespace Rows
def none {H : Type} : Left H := { results := [], args := [] }

/-- 'zzlaws_pkg_lincheck_b1.FnStepSetThenPinnedReadSeesIt': WHATEVER THE INPUT: true; the input reads as it did. -/
def fnStepSetThenPinnedReadSeesItSpec : ChangeSpec := { name := "fnStepSetThenPinnedReadSeesIt", fn := fun _ => fun
  | [d1, d2, d3, d4, d5, d6, d7, d8, d9] => { results := [.lit (.bool true)], args := [d1, d2, d3, d4, d5, d6, d7, d8, d9] }
  | _ => none }
def fnStepSetThenPinnedReadSeesItRow : OpenClaim := { program := "qxb6601677a", sum := "48eff14d353f67f82191c8ee82c7771e33d379e6d7784042218e93a301575559", func := "example.com/concordat/concordat/zzlaws_pkg_lincheck_b1.FnStepSetThenPinnedReadSeesIt", spec := "fnStepSetThenPinnedReadSeesIt", apart := false }
def FnStepSetThenPinnedReadSeesItSaid : Prop := fnStepSetThenPinnedReadSeesItRow.holds Try.pinned (OpenSpec.ofChange fnStepSetThenPinnedReadSeesItSpec)

/-- ITS FALSE NEIGHBOUR: 'it returns false'. Refute it at one input. -/
def fnStepSetThenPinnedReadSeesItWrong : ChangeSpec := { name := "fnStepSetThenPinnedReadSeesIt", fn := fun _ => fun
  | [d1, d2, d3, d4, d5, d6, d7, d8, d9] => { results := [.lit (.bool false)], args := [d1, d2, d3, d4, d5, d6, d7, d8, d9] }
  | _ => none }
def FnStepSetThenPinnedReadSeesItWrongFalsely : Prop := fnStepSetThenPinnedReadSeesItRow.holds Try.pinned (OpenSpec.ofChange fnStepSetThenPinnedReadSeesItWrong)

/-- 'zzlaws_pkg_lincheck_b1.FnNewNeedsIsCountOfVersions': WHATEVER THE INPUT: true; the input reads as it did. -/
def fnNewNeedsIsCountOfVersionsSpec : ChangeSpec := { name := "fnNewNeedsIsCountOfVersions", fn := fun _ => fun
  | [d1, d2, d3] => { results := [.lit (.bool true)], args := [d1, d2, d3] }
  | _ => none }
def fnNewNeedsIsCountOfVersionsRow : OpenClaim := { program := "qxb6601677a", sum := "48eff14d353f67f82191c8ee82c7771e33d379e6d7784042218e93a301575559", func := "example.com/concordat/concordat/zzlaws_pkg_lincheck_b1.FnNewNeedsIsCountOfVersions", spec := "fnNewNeedsIsCountOfVersions", recurses := true, apart := false }
def FnNewNeedsIsCountOfVersionsSaid : Prop := fnNewNeedsIsCountOfVersionsRow.holds Try.pinned (OpenSpec.ofChange fnNewNeedsIsCountOfVersionsSpec)

/-- ITS FALSE NEIGHBOUR: 'it returns false'. Refute it at one input. -/
def fnNewNeedsIsCountOfVersionsWrong : ChangeSpec := { name := "fnNewNeedsIsCountOfVersions", fn := fun _ => fun
  | [d1, d2, d3] => { results := [.lit (.bool false)], args := [d1, d2, d3] }
  | _ => none }
def FnNewNeedsIsCountOfVersionsWrongFalsely : Prop := fnNewNeedsIsCountOfVersionsRow.holds Try.pinned (OpenSpec.ofChange fnNewNeedsIsCountOfVersionsWrong)

/-- 'zzlaws_pkg_lincheck_b1.FnNewNeedsOrderFree': WHATEVER THE INPUT: true; the input reads as it did. -/
def fnNewNeedsOrderFreeSpec : ChangeSpec := { name := "fnNewNeedsOrderFree", fn := fun _ => fun
  | [d1, d2, d3] => { results := [.lit (.bool true)], args := [d1, d2, d3] }
  | _ => none }
def fnNewNeedsOrderFreeRow : OpenClaim := { program := "qxb6601677a", sum := "48eff14d353f67f82191c8ee82c7771e33d379e6d7784042218e93a301575559", func := "example.com/concordat/concordat/zzlaws_pkg_lincheck_b1.FnNewNeedsOrderFree", spec := "fnNewNeedsOrderFree", recurses := true, apart := false }
def FnNewNeedsOrderFreeSaid : Prop := fnNewNeedsOrderFreeRow.holds Try.pinned (OpenSpec.ofChange fnNewNeedsOrderFreeSpec)

/-- ITS FALSE NEIGHBOUR: 'it returns false'. Refute it at one input. -/
def fnNewNeedsOrderFreeWrong : ChangeSpec := { name := "fnNewNeedsOrderFree", fn := fun _ => fun
  | [d1, d2, d3] => { results := [.lit (.bool false)], args := [d1, d2, d3] }
  | _ => none }
def FnNewNeedsOrderFreeWrongFalsely : Prop := fnNewNeedsOrderFreeRow.holds Try.pinned (OpenSpec.ofChange fnNewNeedsOrderFreeWrong)

/-- 'zzlaws_pkg_lincheck_b1.FnListOrdersByLineOpenEndsLast': WHATEVER THE INPUT: true; the input reads as it did. -/
def fnListOrdersByLineOpenEndsLastSpec : ChangeSpec := { name := "fnListOrdersByLineOpenEndsLast", fn := fun _ => fun
  | [d1, d2] => { results := [.lit (.bool true)], args := [d1, d2] }
  | _ => none }
def fnListOrdersByLineOpenEndsLastRow : OpenClaim := { program := "qxb6601677a", sum := "48eff14d353f67f82191c8ee82c7771e33d379e6d7784042218e93a301575559", func := "example.com/concordat/concordat/zzlaws_pkg_lincheck_b1.FnListOrdersByLineOpenEndsLast", spec := "fnListOrdersByLineOpenEndsLast", unfollowed := true, recurses := true, apart := false }
def FnListOrdersByLineOpenEndsLastSaid : Prop := fnListOrdersByLineOpenEndsLastRow.holds Try.pinned (OpenSpec.ofChange fnListOrdersByLineOpenEndsLastSpec)

/-- ITS FALSE NEIGHBOUR: 'it returns false'. Refute it at one input. -/
def fnListOrdersByLineOpenEndsLastWrong : ChangeSpec := { name := "fnListOrdersByLineOpenEndsLast", fn := fun _ => fun
  | [d1, d2] => { results := [.lit (.bool false)], args := [d1, d2] }
  | _ => none }
def FnListOrdersByLineOpenEndsLastWrongFalsely : Prop := fnListOrdersByLineOpenEndsLastRow.holds Try.pinned (OpenSpec.ofChange fnListOrdersByLineOpenEndsLastWrong)

end Rows
end Go.Proofs.Qxb6601677a
