/-
  No cell of these rows narrows 'for every input' (looked for: loops, veiled, ifaces, maps, wideKeys, modest, calm, conditions, laid).
  DERIVED. THE GIVEN ROWS OF THIS SEAT. 2 by the template 'for every input the law returns true; each argument reads behind the call as it read before'; 0 by the template 'total and deterministic' (their statements: YbulkzrqTotals.lean).
  GIVEN WITH THE SEED: the statements are not yours to turn. If you find one false, say at which input.
  Laid BY PROGRAM, IN A SANDBOX (cutbox-rows.mjs): the forced cells as the released guide's own fill.sh prints them over the translation e5add2b96b26812f… (all of the seat's roots in one cut). By AI agents, Wed Nov 11 2026. No macro, syntax, notation, axiom, sorry.
-/
import Derived.Test.YbulkzrqChecked
import GoSem.Claim
import GoSem.ClaimJoined
import GoSem.ClaimMapViews
import Derived.JoinedTies
import Derived.KernelRfl
namespace Go.Proofs.Ybulkzrq
/- THE CELL 'sum', in the pinned program and in every row, IS THE sha256 OF THE DUMP (.gsa) THAT YbulkzrqProg.lean LOADS. Nothing in Lean hashes anything: it is a label: what it is worth is what the hold of that sum in a sandbox is worth. -/
noncomputable def Yba.pinned : Pinned := { name := "ybulkzrq", sum := "e5add2b96b26812f24593aba165bc0b70fa39abfce9d26ba2d571e1c5d6b718a", checked := Yba.checked }
namespace Rows
def none {H : Type} : Left H := { results := [], args := [] }

/-- 'tributary.LawS1290BFresh': WHATEVER THE INPUT: true; the input reads as it did. -/
def lawS1290BFreshSpec : ChangeSpec := { name := "lawS1290BFresh", fn := fun _ => fun
  | [d1, d2] => { results := [.lit (.bool true)], args := [d1, d2] }
  | _ => none }
def lawS1290BFreshRow : OpenClaim := { program := "ybulkzrq", sum := "e5add2b96b26812f24593aba165bc0b70fa39abfce9d26ba2d571e1c5d6b718a", func := "example.com/tributary/tributary.LawS1290BFresh", spec := "lawS1290BFresh", plainKeys := false, apart := false }
def LawS1290BFreshSaid : Prop := lawS1290BFreshRow.holds Yba.pinned (OpenSpec.ofChange lawS1290BFreshSpec)

/-- ITS FALSE NEIGHBOUR: 'it returns false'. Refute it at one input. -/
def lawS1290BFreshWrong : ChangeSpec := { name := "lawS1290BFresh", fn := fun _ => fun
  | [d1, d2] => { results := [.lit (.bool false)], args := [d1, d2] }
  | _ => none }
def LawS1290BFreshWrongFalsely : Prop := lawS1290BFreshRow.holds Yba.pinned (OpenSpec.ofChange lawS1290BFreshWrong)

/-- 'tributary.LawS1290BSame': WHATEVER THE INPUT: true; the input reads as it did. -/
def lawS1290BSameSpec : ChangeSpec := { name := "lawS1290BSame", fn := fun _ => fun
  | [d] => { results := [.lit (.bool true)], args := [d] }
  | _ => none }
def lawS1290BSameRow : OpenClaim := { program := "ybulkzrq", sum := "e5add2b96b26812f24593aba165bc0b70fa39abfce9d26ba2d571e1c5d6b718a", func := "example.com/tributary/tributary.LawS1290BSame", spec := "lawS1290BSame", plainKeys := false, apart := false }
def LawS1290BSameSaid : Prop := lawS1290BSameRow.holds Yba.pinned (OpenSpec.ofChange lawS1290BSameSpec)

/-- ITS FALSE NEIGHBOUR: 'it returns false'. Refute it at one input. -/
def lawS1290BSameWrong : ChangeSpec := { name := "lawS1290BSame", fn := fun _ => fun
  | [d] => { results := [.lit (.bool false)], args := [d] }
  | _ => none }
def LawS1290BSameWrongFalsely : Prop := lawS1290BSameRow.holds Yba.pinned (OpenSpec.ofChange lawS1290BSameWrong)

end Rows
end Go.Proofs.Ybulkzrq
