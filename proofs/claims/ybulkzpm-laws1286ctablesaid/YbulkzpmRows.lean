/-
  No cell of these rows narrows 'for every input' (looked for: loops, veiled, ifaces, maps, wideKeys, modest, calm, conditions, laid).
  DERIVED. THE GIVEN ROWS OF THIS SEAT. 6 by the template 'for every input the law returns true; each argument reads behind the call as it read before'; 0 by the template 'total and deterministic' (their statements: YbulkzpmTotals.lean).
  GIVEN WITH THE SEED: the statements are not yours to turn. If you find one false, say at which input.
  Laid BY PROGRAM, IN A SANDBOX (cutbox-rows.mjs): the forced cells as the released guide's own fill.sh prints them over the translation 51883ff110ee27d9… (all of the seat's roots in one cut). By AI agents, Wed Nov 11 2026. No macro, syntax, notation, axiom, sorry.
-/
import Derived.Test.YbulkzpmChecked
import GoSem.Claim
import GoSem.ClaimJoined
import GoSem.ClaimMapViews
import Derived.JoinedTies
import Derived.KernelRfl
namespace Go.Proofs.Ybulkzpm
/- THE CELL 'sum', in the pinned program and in every row, IS THE sha256 OF THE DUMP (.gsa) THAT YbulkzpmProg.lean LOADS. Nothing in Lean hashes anything: it is a label: what it is worth is what the hold of that sum in a sandbox is worth. -/
noncomputable def Yba.pinned : Pinned := { name := "ybulkzpm", sum := "51883ff110ee27d944bdef1112a5ed54fbc1f1c7b1f69a9076a84b30ef1023ce", checked := Yba.checked }
namespace Rows
def none {H : Type} : Left H := { results := [], args := [] }

/-- 'fenji.LawS1286AOrder': WHATEVER THE INPUT: true; the input reads as it did. -/
def lawS1286AOrderSpec : ChangeSpec := { name := "lawS1286AOrder", fn := fun _ => fun
  | [d1, d2, d3, d4, d5, d6, d7, d8, d9, d10] => { results := [.lit (.bool true)], args := [d1, d2, d3, d4, d5, d6, d7, d8, d9, d10] }
  | _ => none }
def lawS1286AOrderRow : OpenClaim := { program := "ybulkzpm", sum := "51883ff110ee27d944bdef1112a5ed54fbc1f1c7b1f69a9076a84b30ef1023ce", func := "example.com/fenji/fenji.LawS1286AOrder", spec := "lawS1286AOrder", inPlace := ["internal/bytealg.abigen_runtime_cmpstring"], apart := false }
def LawS1286AOrderSaid : Prop := lawS1286AOrderRow.holds Yba.pinned (OpenSpec.ofChange lawS1286AOrderSpec)

/-- ITS FALSE NEIGHBOUR: 'it returns false'. Refute it at one input. -/
def lawS1286AOrderWrong : ChangeSpec := { name := "lawS1286AOrder", fn := fun _ => fun
  | [d1, d2, d3, d4, d5, d6, d7, d8, d9, d10] => { results := [.lit (.bool false)], args := [d1, d2, d3, d4, d5, d6, d7, d8, d9, d10] }
  | _ => none }
def LawS1286AOrderWrongFalsely : Prop := lawS1286AOrderRow.holds Yba.pinned (OpenSpec.ofChange lawS1286AOrderWrong)

/-- 'fenji.LawS1286ASymmetric': WHATEVER THE INPUT: true; the input reads as it did. -/
def lawS1286ASymmetricSpec : ChangeSpec := { name := "lawS1286ASymmetric", fn := fun _ => fun
  | [d1, d2, d3, d4, d5, d6] => { results := [.lit (.bool true)], args := [d1, d2, d3, d4, d5, d6] }
  | _ => none }
def lawS1286ASymmetricRow : OpenClaim := { program := "ybulkzpm", sum := "51883ff110ee27d944bdef1112a5ed54fbc1f1c7b1f69a9076a84b30ef1023ce", func := "example.com/fenji/fenji.LawS1286ASymmetric", spec := "lawS1286ASymmetric", inPlace := ["internal/bytealg.abigen_runtime_cmpstring"], apart := false }
def LawS1286ASymmetricSaid : Prop := lawS1286ASymmetricRow.holds Yba.pinned (OpenSpec.ofChange lawS1286ASymmetricSpec)

/-- ITS FALSE NEIGHBOUR: 'it returns false'. Refute it at one input. -/
def lawS1286ASymmetricWrong : ChangeSpec := { name := "lawS1286ASymmetric", fn := fun _ => fun
  | [d1, d2, d3, d4, d5, d6] => { results := [.lit (.bool false)], args := [d1, d2, d3, d4, d5, d6] }
  | _ => none }
def LawS1286ASymmetricWrongFalsely : Prop := lawS1286ASymmetricRow.holds Yba.pinned (OpenSpec.ofChange lawS1286ASymmetricWrong)

/-- 'fenji.LawS1286BTable': WHATEVER THE INPUT: true; the input reads as it did. -/
def lawS1286BTableSpec : ChangeSpec := { name := "lawS1286BTable", fn := fun _ => fun
  | [d] => { results := [.lit (.bool true)], args := [d] }
  | _ => none }
def lawS1286BTableRow : OpenClaim := { program := "ybulkzpm", sum := "51883ff110ee27d944bdef1112a5ed54fbc1f1c7b1f69a9076a84b30ef1023ce", func := "example.com/fenji/fenji.LawS1286BTable", spec := "lawS1286BTable", apart := false }
def LawS1286BTableSaid : Prop := lawS1286BTableRow.holds Yba.pinned (OpenSpec.ofChange lawS1286BTableSpec)

/-- ITS FALSE NEIGHBOUR: 'it returns false'. Refute it at one input. -/
def lawS1286BTableWrong : ChangeSpec := { name := "lawS1286BTable", fn := fun _ => fun
  | [d] => { results := [.lit (.bool false)], args := [d] }
  | _ => none }
def LawS1286BTableWrongFalsely : Prop := lawS1286BTableRow.holds Yba.pinned (OpenSpec.ofChange lawS1286BTableWrong)

/-- 'fenji.LawS1286BNamed': WHATEVER THE INPUT: true; the input reads as it did. -/
def lawS1286BNamedSpec : ChangeSpec := { name := "lawS1286BNamed", fn := fun _ => fun
  | [d] => { results := [.lit (.bool true)], args := [d] }
  | _ => none }
def lawS1286BNamedRow : OpenClaim := { program := "ybulkzpm", sum := "51883ff110ee27d944bdef1112a5ed54fbc1f1c7b1f69a9076a84b30ef1023ce", func := "example.com/fenji/fenji.LawS1286BNamed", spec := "lawS1286BNamed", apart := false }
def LawS1286BNamedSaid : Prop := lawS1286BNamedRow.holds Yba.pinned (OpenSpec.ofChange lawS1286BNamedSpec)

/-- ITS FALSE NEIGHBOUR: 'it returns false'. Refute it at one input. -/
def lawS1286BNamedWrong : ChangeSpec := { name := "lawS1286BNamed", fn := fun _ => fun
  | [d] => { results := [.lit (.bool false)], args := [d] }
  | _ => none }
def LawS1286BNamedWrongFalsely : Prop := lawS1286BNamedRow.holds Yba.pinned (OpenSpec.ofChange lawS1286BNamedWrong)

/-- 'fenji.LawS1286CTable': WHATEVER THE INPUT: true; the input reads as it did. -/
def lawS1286CTableSpec : ChangeSpec := { name := "lawS1286CTable", fn := fun _ => fun
  | [d] => { results := [.lit (.bool true)], args := [d] }
  | _ => none }
def lawS1286CTableRow : OpenClaim := { program := "ybulkzpm", sum := "51883ff110ee27d944bdef1112a5ed54fbc1f1c7b1f69a9076a84b30ef1023ce", func := "example.com/fenji/fenji.LawS1286CTable", spec := "lawS1286CTable", apart := false }
def LawS1286CTableSaid : Prop := lawS1286CTableRow.holds Yba.pinned (OpenSpec.ofChange lawS1286CTableSpec)

/-- ITS FALSE NEIGHBOUR: 'it returns false'. Refute it at one input. -/
def lawS1286CTableWrong : ChangeSpec := { name := "lawS1286CTable", fn := fun _ => fun
  | [d] => { results := [.lit (.bool false)], args := [d] }
  | _ => none }
def LawS1286CTableWrongFalsely : Prop := lawS1286CTableRow.holds Yba.pinned (OpenSpec.ofChange lawS1286CTableWrong)

/-- 'fenji.LawS1286CBuilt': WHATEVER THE INPUT: true; the input reads as it did. -/
def lawS1286CBuiltSpec : ChangeSpec := { name := "lawS1286CBuilt", fn := fun _ => fun
  | [d1, d2, d3, d4] => { results := [.lit (.bool true)], args := [d1, d2, d3, d4] }
  | _ => none }
def lawS1286CBuiltRow : OpenClaim := { program := "ybulkzpm", sum := "51883ff110ee27d944bdef1112a5ed54fbc1f1c7b1f69a9076a84b30ef1023ce", func := "example.com/fenji/fenji.LawS1286CBuilt", spec := "lawS1286CBuilt", apart := false }
def LawS1286CBuiltSaid : Prop := lawS1286CBuiltRow.holds Yba.pinned (OpenSpec.ofChange lawS1286CBuiltSpec)

/-- ITS FALSE NEIGHBOUR: 'it returns false'. Refute it at one input. -/
def lawS1286CBuiltWrong : ChangeSpec := { name := "lawS1286CBuilt", fn := fun _ => fun
  | [d1, d2, d3, d4] => { results := [.lit (.bool false)], args := [d1, d2, d3, d4] }
  | _ => none }
def LawS1286CBuiltWrongFalsely : Prop := lawS1286CBuiltRow.holds Yba.pinned (OpenSpec.ofChange lawS1286CBuiltWrong)

end Rows
end Go.Proofs.Ybulkzpm
