/-
  No cell of these rows narrows 'for every input' (looked for: loops, veiled, ifaces, maps, wideKeys, modest, calm, conditions, laid).
  DERIVED. THE GIVEN ROWS OF THIS SEAT. 4 by the template 'for every input the law returns true; each argument reads behind the call as it read before'; 0 by the template 'total and deterministic' (their statements: Qxb6602654aTotals.lean).
  GIVEN WITH THE SEED: the statements are not yours to turn. If you find one false, say at which input.
  Laid BY PROGRAM, IN A SANDBOX (cutbox-rows.mjs): the forced cells as the released guide's own fill.sh prints them over the translation 8f3e878bc953f786… (all of the seat's roots in one cut). By AI agents, Wed Nov 11 2026. No macro, syntax, notation, axiom, sorry.
-/
import Derived.Test.Qxb6602654aChecked
import GoSem.Claim
import GoSem.ClaimJoined
import GoSem.ClaimMapViews
import Derived.JoinedTies
import Derived.KernelRfl
namespace Go.Proofs.Qxb6602654a
/- THE CELL 'sum', in the pinned program and in every row, IS THE sha256 OF THE DUMP (.gsa) THAT Qxb6602654aProg.lean LOADS. Nothing in Lean hashes anything: it is a label: what it is worth is what the hold of that sum in a sandbox is worth. -/
noncomputable def Try.pinned : Pinned := { name := "qxb6602654a", sum := "8f3e878bc953f786e538af13500b436a43f5b329989b8114f4939f2e73178d26", checked := Try.checked }
namespace Rows
def none {H : Type} : Left H := { results := [], args := [] }

/-- 'zzlaws_internal_lua_b1.FnMatchClassTable': WHATEVER THE INPUT: true; the input reads as it did. -/
def fnMatchClassTableSpec : ChangeSpec := { name := "fnMatchClassTable", fn := fun _ => fun
  | [d1, d2] => { results := [.lit (.bool true)], args := [d1, d2] }
  | _ => none }
def fnMatchClassTableRow : OpenClaim := { program := "qxb6602654a", sum := "8f3e878bc953f786e538af13500b436a43f5b329989b8114f4939f2e73178d26", func := "example.com/keelstone/keelstone/zzlaws_internal_lua_b1.FnMatchClassTable", spec := "fnMatchClassTable", apart := false }
def FnMatchClassTableSaid : Prop := fnMatchClassTableRow.holds Try.pinned (OpenSpec.ofChange fnMatchClassTableSpec)

/-- ITS FALSE NEIGHBOUR: 'it returns false'. Refute it at one input. -/
def fnMatchClassTableWrong : ChangeSpec := { name := "fnMatchClassTable", fn := fun _ => fun
  | [d1, d2] => { results := [.lit (.bool false)], args := [d1, d2] }
  | _ => none }
def FnMatchClassTableWrongFalsely : Prop := fnMatchClassTableRow.holds Try.pinned (OpenSpec.ofChange fnMatchClassTableWrong)

/-- 'zzlaws_internal_lua_b1.FnMatchClassRelations': WHATEVER THE INPUT: true; the input reads as it did. -/
def fnMatchClassRelationsSpec : ChangeSpec := { name := "fnMatchClassRelations", fn := fun _ => fun
  | [d] => { results := [.lit (.bool true)], args := [d] }
  | _ => none }
def fnMatchClassRelationsRow : OpenClaim := { program := "qxb6602654a", sum := "8f3e878bc953f786e538af13500b436a43f5b329989b8114f4939f2e73178d26", func := "example.com/keelstone/keelstone/zzlaws_internal_lua_b1.FnMatchClassRelations", spec := "fnMatchClassRelations", apart := false }
def FnMatchClassRelationsSaid : Prop := fnMatchClassRelationsRow.holds Try.pinned (OpenSpec.ofChange fnMatchClassRelationsSpec)

/-- ITS FALSE NEIGHBOUR: 'it returns false'. Refute it at one input. -/
def fnMatchClassRelationsWrong : ChangeSpec := { name := "fnMatchClassRelations", fn := fun _ => fun
  | [d] => { results := [.lit (.bool false)], args := [d] }
  | _ => none }
def FnMatchClassRelationsWrongFalsely : Prop := fnMatchClassRelationsRow.holds Try.pinned (OpenSpec.ofChange fnMatchClassRelationsWrong)

/-- 'zzlaws_internal_lua_b1.FnMatchSetComplement': WHATEVER THE INPUT: true; the input reads as it did. -/
def fnMatchSetComplementSpec : ChangeSpec := { name := "fnMatchSetComplement", fn := fun _ => fun
  | [d1, d2] => { results := [.lit (.bool true)], args := [d1, d2] }
  | _ => none }
def fnMatchSetComplementRow : OpenClaim := { program := "qxb6602654a", sum := "8f3e878bc953f786e538af13500b436a43f5b329989b8114f4939f2e73178d26", func := "example.com/keelstone/keelstone/zzlaws_internal_lua_b1.FnMatchSetComplement", spec := "fnMatchSetComplement", apart := false }
def FnMatchSetComplementSaid : Prop := fnMatchSetComplementRow.holds Try.pinned (OpenSpec.ofChange fnMatchSetComplementSpec)

/-- ITS FALSE NEIGHBOUR: 'it returns false'. Refute it at one input. -/
def fnMatchSetComplementWrong : ChangeSpec := { name := "fnMatchSetComplement", fn := fun _ => fun
  | [d1, d2] => { results := [.lit (.bool false)], args := [d1, d2] }
  | _ => none }
def FnMatchSetComplementWrongFalsely : Prop := fnMatchSetComplementRow.holds Try.pinned (OpenSpec.ofChange fnMatchSetComplementWrong)

/-- 'zzlaws_internal_lua_b1.FnMatchSetFirstItem': WHATEVER THE INPUT: true; the input reads as it did. -/
def fnMatchSetFirstItemSpec : ChangeSpec := { name := "fnMatchSetFirstItem", fn := fun _ => fun
  | [d1, d2, d3, d4, d5, d6] => { results := [.lit (.bool true)], args := [d1, d2, d3, d4, d5, d6] }
  | _ => none }
def fnMatchSetFirstItemRow : OpenClaim := { program := "qxb6602654a", sum := "8f3e878bc953f786e538af13500b436a43f5b329989b8114f4939f2e73178d26", func := "example.com/keelstone/keelstone/zzlaws_internal_lua_b1.FnMatchSetFirstItem", spec := "fnMatchSetFirstItem", apart := false }
def FnMatchSetFirstItemSaid : Prop := fnMatchSetFirstItemRow.holds Try.pinned (OpenSpec.ofChange fnMatchSetFirstItemSpec)

/-- ITS FALSE NEIGHBOUR: 'it returns false'. Refute it at one input. -/
def fnMatchSetFirstItemWrong : ChangeSpec := { name := "fnMatchSetFirstItem", fn := fun _ => fun
  | [d1, d2, d3, d4, d5, d6] => { results := [.lit (.bool false)], args := [d1, d2, d3, d4, d5, d6] }
  | _ => none }
def FnMatchSetFirstItemWrongFalsely : Prop := fnMatchSetFirstItemRow.holds Try.pinned (OpenSpec.ofChange fnMatchSetFirstItemWrong)

end Rows
end Go.Proofs.Qxb6602654a
