/-
  No cell of these rows narrows 'for every input' (looked for: loops, veiled, ifaces, maps, wideKeys, modest, calm, conditions, laid).
  DERIVED. THE GIVEN ROWS OF THIS SEAT. 1 by the template 'for every input the law returns true; each argument reads behind the call as it read before'; 0 by the template 'total and deterministic' (their statements: Qxb6616136aTotals.lean).
  GIVEN WITH THE SEED: the statements are not yours to turn. If you find one false, say at which input.
  Laid BY PROGRAM, IN A SANDBOX (cutbox-rows.mjs): the forced cells as the released guide's own fill.sh prints them over the translation 22f97b4d451f907d… (all of the seat's roots in one cut). By AI agents, Wed Nov 11 2026. No macro, syntax, notation, axiom, sorry.
-/
import Derived.Test.Qxb6616136aChecked
import GoSem.Claim
import GoSem.ClaimJoined
import GoSem.ClaimMapViews
import Derived.JoinedTies
import Derived.KernelRfl
namespace Go.Proofs.Qxb6616136a
/- THE CELL 'sum', in the pinned program and in every row, IS THE sha256 OF THE DUMP (.gsa) THAT Qxb6616136aProg.lean LOADS. Nothing in Lean hashes anything: it is a label: what it is worth is what the hold of that sum in a sandbox is worth. -/
noncomputable def Try.pinned : Pinned := { name := "qxb6616136a", sum := "22f97b4d451f907dc440d516a4883162bf61e9e33cba260dd3d04cb01a118633", checked := Try.checked }
namespace Rows
def none {H : Type} : Left H := { results := [], args := [] }

/-- 'zzlaws_gateway_b1.FnHurryMarksConnToYield': WHATEVER THE INPUT: true; the input reads as it did. -/
def fnHurryMarksConnToYieldSpec : ChangeSpec := { name := "fnHurryMarksConnToYield", fn := fun _ => fun
  | [d1, d2, d3, d4] => { results := [.lit (.bool true)], args := [d1, d2, d3, d4] }
  | _ => none }
def fnHurryMarksConnToYieldRow : OpenClaim := { program := "qxb6616136a", sum := "22f97b4d451f907dc440d516a4883162bf61e9e33cba260dd3d04cb01a118633", func := "example.com/sluicekeeper/sluicekeeper/zzlaws_gateway_b1.FnHurryMarksConnToYield", spec := "fnHurryMarksConnToYield", inPlace := ["sync/atomic.StoreUint32", "sync/atomic.LoadUint32"], apart := false }
def FnHurryMarksConnToYieldSaid : Prop := fnHurryMarksConnToYieldRow.holds Try.pinned (OpenSpec.ofChange fnHurryMarksConnToYieldSpec)

/-- ITS FALSE NEIGHBOUR: 'it returns false'. Refute it at one input. -/
def fnHurryMarksConnToYieldWrong : ChangeSpec := { name := "fnHurryMarksConnToYield", fn := fun _ => fun
  | [d1, d2, d3, d4] => { results := [.lit (.bool false)], args := [d1, d2, d3, d4] }
  | _ => none }
def FnHurryMarksConnToYieldWrongFalsely : Prop := fnHurryMarksConnToYieldRow.holds Try.pinned (OpenSpec.ofChange fnHurryMarksConnToYieldWrong)

end Rows
end Go.Proofs.Qxb6616136a
