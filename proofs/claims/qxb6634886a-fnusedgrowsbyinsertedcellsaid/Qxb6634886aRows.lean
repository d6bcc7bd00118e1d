/-
  No cell of these rows narrows 'for every input' (looked for: loops, veiled, ifaces, maps, wideKeys, modest, calm, conditions, laid).
  DERIVED. THE GIVEN ROWS OF THIS SEAT. 2 by the template 'for every input the law returns true; each argument reads behind the call as it read before'; 0 by the template 'total and deterministic' (their statements: Qxb6634886aTotals.lean).
  GIVEN WITH THE SEED: the statements are not yours to turn. If you find one false, say at which input.
  Laid BY PROGRAM, IN A SANDBOX (cutbox-rows.mjs): the forced cells as the released guide's own fill.sh prints them over the translation ddee6fcb31b738e6… (all of the seat's roots in one cut). By AI agents, Wed Nov 11 2026. No macro, syntax, notation, axiom, sorry.
-/
import Derived.Test.Qxb6634886aChecked
import GoSem.Claim
import GoSem.ClaimJoined
import GoSem.ClaimMapViews
import Derived.JoinedTies
import Derived.KernelRfl
namespace Go.Proofs.Qxb6634886a
/- THE CELL 'sum', in the pinned program and in every row, IS THE sha256 OF THE DUMP (.gsa) THAT Qxb6634886aProg.lean LOADS. Nothing in Lean hashes anything: it is a label: what it is worth is what the hold of that sum in a sandbox is worth. -/
noncomputable def Try.pinned : Pinned := { name := "qxb6634886a", sum := "ddee6fcb31b738e656a807af56402dfdcc34e06c8d4d4cc5ed67bee5c83894f2", checked := Try.checked }
namespace Rows
def none {H : Type} : Left H := { results := [], args := [] }

/-- 'zzlaws_internal_btree_b1.FnUsedAddsOverAnyCut': WHATEVER THE INPUT: true; the input reads as it did. -/
def fnUsedAddsOverAnyCutSpec : ChangeSpec := { name := "fnUsedAddsOverAnyCut", fn := fun _ => fun
  | [d1, d2, d3] => { results := [.lit (.bool true)], args := [d1, d2, d3] }
  | _ => none }
def fnUsedAddsOverAnyCutRow : OpenClaim := { program := "qxb6634886a", sum := "ddee6fcb31b738e656a807af56402dfdcc34e06c8d4d4cc5ed67bee5c83894f2", func := "example.com/leafrail/leafrail/zzlaws_internal_btree_b1.FnUsedAddsOverAnyCut", spec := "fnUsedAddsOverAnyCut", apart := false }
def FnUsedAddsOverAnyCutSaid : Prop := fnUsedAddsOverAnyCutRow.holds Try.pinned (OpenSpec.ofChange fnUsedAddsOverAnyCutSpec)

/-- ITS FALSE NEIGHBOUR: 'it returns false'. Refute it at one input. -/
def fnUsedAddsOverAnyCutWrong : ChangeSpec := { name := "fnUsedAddsOverAnyCut", fn := fun _ => fun
  | [d1, d2, d3] => { results := [.lit (.bool false)], args := [d1, d2, d3] }
  | _ => none }
def FnUsedAddsOverAnyCutWrongFalsely : Prop := fnUsedAddsOverAnyCutRow.holds Try.pinned (OpenSpec.ofChange fnUsedAddsOverAnyCutWrong)

/-- 'zzlaws_internal_btree_b1.FnUsedGrowsByInsertedCell': WHATEVER THE INPUT: true; the input reads as it did. -/
def fnUsedGrowsByInsertedCellSpec : ChangeSpec := { name := "fnUsedGrowsByInsertedCell", fn := fun _ => fun
  | [d1, d2, d3, d4, d5, d6] => { results := [.lit (.bool true)], args := [d1, d2, d3, d4, d5, d6] }
  | _ => none }
def fnUsedGrowsByInsertedCellRow : OpenClaim := { program := "qxb6634886a", sum := "ddee6fcb31b738e656a807af56402dfdcc34e06c8d4d4cc5ed67bee5c83894f2", func := "example.com/leafrail/leafrail/zzlaws_internal_btree_b1.FnUsedGrowsByInsertedCell", spec := "fnUsedGrowsByInsertedCell", apart := false }
def FnUsedGrowsByInsertedCellSaid : Prop := fnUsedGrowsByInsertedCellRow.holds Try.pinned (OpenSpec.ofChange fnUsedGrowsByInsertedCellSpec)

/-- ITS FALSE NEIGHBOUR: 'it returns false'. Refute it at one input. -/
def fnUsedGrowsByInsertedCellWrong : ChangeSpec := { name := "fnUsedGrowsByInsertedCell", fn := fun _ => fun
  | [d1, d2, d3, d4, d5, d6] => { results := [.lit (.bool false)], args := [d1, d2, d3, d4, d5, d6] }
  | _ => none }
def FnUsedGrowsByInsertedCellWrongFalsely : Prop := fnUsedGrowsByInsertedCellRow.holds Try.pinned (OpenSpec.ofChange fnUsedGrowsByInsertedCellWrong)

end Rows
end Go.Proofs.Qxb6634886a
