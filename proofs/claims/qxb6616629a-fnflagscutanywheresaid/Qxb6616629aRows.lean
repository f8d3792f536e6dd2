/-
  No cell of these rows narrows 'for every input' (looked for: loops, veiled, ifaces, maps, wideKeys, modest, calm, conditions, laid).
  DERIVED. THE GIVEN ROWS OF THIS SEAT. 2 by the template 'for every input the law returns true; each argument reads behind the call as it read before'; 0 by the template 'total and deterministic' (their statements: Qxb6616629aTotals.lean).
  GIVEN WITH THE SEED: the statements are not yours to turn. If you find one false, say at which input.
  Laid BY PROGRAM, IN A SANDBOX (cutbox-rows.mjs): the forced cells as the released guide's own fill.sh prints them over the translation d7f88dfa5adecc55… (all of the seat's roots in one cut). By AI agents, Wed Nov 11 2026. No macro, syntax, notation, axiom, sorry.
-/
import Derived.Test.Qxb6616629aChecked
import GoSem.Claim
import GoSem.ClaimJoined
import GoSem.ClaimMapViews
import Derived.JoinedTies
import Derived.KernelRfl
namespace Go.Proofs.Qxb6616629a
/- THE CELL 'sum', in the pinned program and in every row, IS THE sha256 OF THE DUMP (.gsa) THAT Qxb6616629aProg.lean LOADS. Nothing in Lean hashes anything: it is a label: what it is worth is what the hold of that sum in a sandbox is worth. -/
noncomputable def Try.pinned : Pinned := { name := "qxb6616629a", sum := "d7f88dfa5adecc55ce72c05b18ee7cf7415655c934e4cc2a50eea9f41bb9b17d", checked := Try.checked }
namespace Rows
def none {H : Type} : Left H := { results := [], args := [] }

/-- 'zzlaws_internal_packed_b1.FnFlagsReadAgainstModel': WHATEVER THE INPUT: true; the input reads as it did. -/
def fnFlagsReadAgainstModelSpec : ChangeSpec := { name := "fnFlagsReadAgainstModel", fn := fun _ => fun
  | [d] => { results := [.lit (.bool true)], args := [d] }
  | _ => none }
def fnFlagsReadAgainstModelRow : OpenClaim := { program := "qxb6616629a", sum := "d7f88dfa5adecc55ce72c05b18ee7cf7415655c934e4cc2a50eea9f41bb9b17d", func := "example.com/everyday-memory/everyday-memory/zzlaws_internal_packed_b1.FnFlagsReadAgainstModel", spec := "fnFlagsReadAgainstModel", apart := false }
def FnFlagsReadAgainstModelSaid : Prop := fnFlagsReadAgainstModelRow.holds Try.pinned (OpenSpec.ofChange fnFlagsReadAgainstModelSpec)

/-- ITS FALSE NEIGHBOUR: 'it returns false'. Refute it at one input. -/
def fnFlagsReadAgainstModelWrong : ChangeSpec := { name := "fnFlagsReadAgainstModel", fn := fun _ => fun
  | [d] => { results := [.lit (.bool false)], args := [d] }
  | _ => none }
def FnFlagsReadAgainstModelWrongFalsely : Prop := fnFlagsReadAgainstModelRow.holds Try.pinned (OpenSpec.ofChange fnFlagsReadAgainstModelWrong)

/-- 'zzlaws_internal_packed_b1.FnFlagsCutAnywhere': WHATEVER THE INPUT: true; the input reads as it did. -/
def fnFlagsCutAnywhereSpec : ChangeSpec := { name := "fnFlagsCutAnywhere", fn := fun _ => fun
  | [d1, d2] => { results := [.lit (.bool true)], args := [d1, d2] }
  | _ => none }
def fnFlagsCutAnywhereRow : OpenClaim := { program := "qxb6616629a", sum := "d7f88dfa5adecc55ce72c05b18ee7cf7415655c934e4cc2a50eea9f41bb9b17d", func := "example.com/everyday-memory/everyday-memory/zzlaws_internal_packed_b1.FnFlagsCutAnywhere", spec := "fnFlagsCutAnywhere", apart := false }
def FnFlagsCutAnywhereSaid : Prop := fnFlagsCutAnywhereRow.holds Try.pinned (OpenSpec.ofChange fnFlagsCutAnywhereSpec)

/-- ITS FALSE NEIGHBOUR: 'it returns false'. Refute it at one input. -/
def fnFlagsCutAnywhereWrong : ChangeSpec := { name := "fnFlagsCutAnywhere", fn := fun _ => fun
  | [d1, d2] => { results := [.lit (.bool false)], args := [d1, d2] }
  | _ => none }
def FnFlagsCutAnywhereWrongFalsely : Prop := fnFlagsCutAnywhereRow.holds Try.pinned (OpenSpec.ofChange fnFlagsCutAnywhereWrong)

end Rows
end Go.Proofs.Qxb6616629a
