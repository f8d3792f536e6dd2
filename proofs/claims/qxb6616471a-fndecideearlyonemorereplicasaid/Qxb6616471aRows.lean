/-
  No cell of these rows narrows 'for every input' (looked for: loops, veiled, ifaces, maps, wideKeys, modest, calm, conditions, laid).
  DERIVED. THE GIVEN ROWS OF THIS SEAT. 2 by the template 'for every input the law returns true; each argument reads behind the call as it read before'; 0 by the template 'total and deterministic' (their statements: Qxb6616471aTotals.lean).
  GIVEN WITH THE SEED: the statements are not yours to turn. If you find one false, say at which input.
  Laid BY PROGRAM, IN A SANDBOX (cutbox-rows.mjs): the forced cells as the released guide's own fill.sh prints them over the translation 4b2f84fe721e45d3… (all of the seat's roots in one cut). By AI agents, Wed Nov 11 2026. No macro, syntax, notation, axiom, sorry.
-/
import Derived.Test.Qxb6616471aChecked
import GoSem.Claim
import GoSem.ClaimJoined
import GoSem.ClaimMapViews
import Derived.JoinedTies
import Derived.KernelRfl
namespace Go.Proofs.Qxb6616471a
/- THE CELL 'sum', in the pinned program and in every row, IS THE sha256 OF THE DUMP (.gsa) THAT Qxb6616471aProg.lean LOADS. Nothing in Lean hashes anything: it is a label: what it is worth is what the hold of that sum in a sandbox is worth. -/
noncomputable def Try.pinned : Pinned := { name := "qxb6616471a", sum := "4b2f84fe721e45d3e81cc77009a4f06928d25401b1d09b0ce1c63b7511742dc0", checked := Try.checked }
namespace Rows
def none {H : Type} : Left H := { results := [], args := [] }

/-- 'zzlaws_txn_b1.FnDecideEarlyOneMoreReplica': WHATEVER THE INPUT: true; the input reads as it did. -/
def fnDecideEarlyOneMoreReplicaSpec : ChangeSpec := { name := "fnDecideEarlyOneMoreReplica", fn := fun _ => fun
  | [d1, d2, d3, d4, d5, d6, d7] => { results := [.lit (.bool true)], args := [d1, d2, d3, d4, d5, d6, d7] }
  | _ => none }
def fnDecideEarlyOneMoreReplicaRow : OpenClaim := { program := "qxb6616471a", sum := "4b2f84fe721e45d3e81cc77009a4f06928d25401b1d09b0ce1c63b7511742dc0", func := "example.com/votary/votary/zzlaws_txn_b1.FnDecideEarlyOneMoreReplica", spec := "fnDecideEarlyOneMoreReplica", unfollowed := true, recurses := true, apart := false }
def FnDecideEarlyOneMoreReplicaSaid : Prop := fnDecideEarlyOneMoreReplicaRow.holds Try.pinned (OpenSpec.ofChange fnDecideEarlyOneMoreReplicaSpec)

/-- ITS FALSE NEIGHBOUR: 'it returns false'. Refute it at one input. -/
def fnDecideEarlyOneMoreReplicaWrong : ChangeSpec := { name := "fnDecideEarlyOneMoreReplica", fn := fun _ => fun
  | [d1, d2, d3, d4, d5, d6, d7] => { results := [.lit (.bool false)], args := [d1, d2, d3, d4, d5, d6, d7] }
  | _ => none }
def FnDecideEarlyOneMoreReplicaWrongFalsely : Prop := fnDecideEarlyOneMoreReplicaRow.holds Try.pinned (OpenSpec.ofChange fnDecideEarlyOneMoreReplicaWrong)

/-- 'zzlaws_txn_b1.FnHoldsCutAtAnyKey': WHATEVER THE INPUT: true; the input reads as it did. -/
def fnHoldsCutAtAnyKeySpec : ChangeSpec := { name := "fnHoldsCutAtAnyKey", fn := fun _ => fun
  | [d1, d2, d3] => { results := [.lit (.bool true)], args := [d1, d2, d3] }
  | _ => none }
def fnHoldsCutAtAnyKeyRow : OpenClaim := { program := "qxb6616471a", sum := "4b2f84fe721e45d3e81cc77009a4f06928d25401b1d09b0ce1c63b7511742dc0", func := "example.com/votary/votary/zzlaws_txn_b1.FnHoldsCutAtAnyKey", spec := "fnHoldsCutAtAnyKey", inPlace := ["internal/bytealg.Compare"], unfollowed := true, recurses := true, apart := false }
def FnHoldsCutAtAnyKeySaid : Prop := fnHoldsCutAtAnyKeyRow.holds Try.pinned (OpenSpec.ofChange fnHoldsCutAtAnyKeySpec)

/-- ITS FALSE NEIGHBOUR: 'it returns false'. Refute it at one input. -/
def fnHoldsCutAtAnyKeyWrong : ChangeSpec := { name := "fnHoldsCutAtAnyKey", fn := fun _ => fun
  | [d1, d2, d3] => { results := [.lit (.bool false)], args := [d1, d2, d3] }
  | _ => none }
def FnHoldsCutAtAnyKeyWrongFalsely : Prop := fnHoldsCutAtAnyKeyRow.holds Try.pinned (OpenSpec.ofChange fnHoldsCutAtAnyKeyWrong)

end Rows
end Go.Proofs.Qxb6616471a
