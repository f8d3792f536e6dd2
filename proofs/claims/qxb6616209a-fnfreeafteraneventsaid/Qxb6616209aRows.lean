/-
  No cell of these rows narrows 'for every input' (looked for: loops, veiled, ifaces, maps, wideKeys, modest, calm, conditions, laid).
  DERIVED. THE GIVEN ROWS OF THIS SEAT. 2 by the template 'for every input the law returns true; each argument reads behind the call as it read before'; 0 by the template 'total and deterministic' (their statements: Qxb6616209aTotals.lean).
  GIVEN WITH THE SEED: the statements are not yours to turn. If you find one false, say at which input.
  Laid BY PROGRAM, IN A SANDBOX (cutbox-rows.mjs): the forced cells as the released guide's own fill.sh prints them over the translation f4979c2742c4ad98… (all of the seat's roots in one cut). By AI agents, Wed Nov 11 2026. No macro, syntax, notation, axiom, sorry.
-/
import Derived.Test.Qxb6616209aChecked
import GoSem.Claim
import GoSem.ClaimJoined
import GoSem.ClaimMapViews
import Derived.JoinedTies
import Derived.KernelRfl
namespace Go.Proofs.Qxb6616209a
/- THE CELL 'sum', in the pinned program and in every row, IS THE sha256 OF THE DUMP (.gsa) THAT Qxb6616209aProg.lean LOADS. Nothing in Lean hashes anything: it is a label: what it is worth is what the hold of that sum in a sandbox is worth. -/
noncomputable def Try.pinned : Pinned := { name := "qxb6616209a", sum := "f4979c2742c4ad98ab163dcac011b315834ca13b158ca8661352e2985134b311", checked := Try.checked }
namespace Rows
def none {H : Type} : Left H := { results := [], args := [] }

/-- 'zzlaws_root_b1.FnPendingIsWhatHasNotEnded': WHATEVER THE INPUT: true; the input reads as it did. -/
def fnPendingIsWhatHasNotEndedSpec : ChangeSpec := { name := "fnPendingIsWhatHasNotEnded", fn := fun _ => fun
  | [d1, d2, d3, d4, d5, d6, d7, d8, d9, d10, d11] => { results := [.lit (.bool true)], args := [d1, d2, d3, d4, d5, d6, d7, d8, d9, d10, d11] }
  | _ => none }
def fnPendingIsWhatHasNotEndedRow : OpenClaim := { program := "qxb6616209a", sum := "f4979c2742c4ad98ab163dcac011b315834ca13b158ca8661352e2985134b311", func := "example.com/rally-point/rally-point/zzlaws_root_b1.FnPendingIsWhatHasNotEnded", spec := "fnPendingIsWhatHasNotEnded", apart := false }
def FnPendingIsWhatHasNotEndedSaid : Prop := fnPendingIsWhatHasNotEndedRow.holds Try.pinned (OpenSpec.ofChange fnPendingIsWhatHasNotEndedSpec)

/-- ITS FALSE NEIGHBOUR: 'it returns false'. Refute it at one input. -/
def fnPendingIsWhatHasNotEndedWrong : ChangeSpec := { name := "fnPendingIsWhatHasNotEnded", fn := fun _ => fun
  | [d1, d2, d3, d4, d5, d6, d7, d8, d9, d10, d11] => { results := [.lit (.bool false)], args := [d1, d2, d3, d4, d5, d6, d7, d8, d9, d10, d11] }
  | _ => none }
def FnPendingIsWhatHasNotEndedWrongFalsely : Prop := fnPendingIsWhatHasNotEndedRow.holds Try.pinned (OpenSpec.ofChange fnPendingIsWhatHasNotEndedWrong)

/-- 'zzlaws_root_b1.FnFreeAfterAnEvent': WHATEVER THE INPUT: true; the input reads as it did. -/
def fnFreeAfterAnEventSpec : ChangeSpec := { name := "fnFreeAfterAnEvent", fn := fun _ => fun
  | [d1, d2, d3, d4, d5] => { results := [.lit (.bool true)], args := [d1, d2, d3, d4, d5] }
  | _ => none }
def fnFreeAfterAnEventRow : OpenClaim := { program := "qxb6616209a", sum := "f4979c2742c4ad98ab163dcac011b315834ca13b158ca8661352e2985134b311", func := "example.com/rally-point/rally-point/zzlaws_root_b1.FnFreeAfterAnEvent", spec := "fnFreeAfterAnEvent", apart := false }
def FnFreeAfterAnEventSaid : Prop := fnFreeAfterAnEventRow.holds Try.pinned (OpenSpec.ofChange fnFreeAfterAnEventSpec)

/-- ITS FALSE NEIGHBOUR: 'it returns false'. Refute it at one input. -/
def fnFreeAfterAnEventWrong : ChangeSpec := { name := "fnFreeAfterAnEvent", fn := fun _ => fun
  | [d1, d2, d3, d4, d5] => { results := [.lit (.bool false)], args := [d1, d2, d3, d4, d5] }
  | _ => none }
def FnFreeAfterAnEventWrongFalsely : Prop := fnFreeAfterAnEventRow.holds Try.pinned (OpenSpec.ofChange fnFreeAfterAnEventWrong)

end Rows
end Go.Proofs.Qxb6616209a
