/-
  No cell of these rows narrows 'for every input' (looked for: loops, veiled, ifaces, maps, wideKeys, modest, calm, conditions, laid).
  DERIVED. THE GIVEN ROWS OF THIS SEAT. 2 by the template 'for every input the law returns true; each argument reads behind the call as it read before'; 0 by the template 'total and deterministic' (their statements: YbulkzssTotals.lean).
  GIVEN WITH THE SEED: the statements are not yours to turn. If you find one false, say at which input.
  Laid BY PROGRAM, IN A SANDBOX (cutbox-rows.mjs): the forced cells as the released guide's own fill.sh prints them over the translation 9c244f2e20f966c7… (all of the seat's roots in one cut). By AI agents, Wed Nov 11 2026. No macro, syntax, notation, axiom, sorry.
-/
import Derived.Test.YbulkzssChecked
import GoSem.Claim
import GoSem.ClaimJoined
import GoSem.ClaimMapViews
import Derived.JoinedTies
import Derived.KernelRfl
namespace Go.Proofs.Ybulkzss
/- THE CELL 'sum', in the pinned program and in every row, IS THE sha256 OF THE DUMP (.gsa) THAT YbulkzssProg.lean LOADS. Nothing in Lean hashes anything: it is a label: what it is worth is what the hold of that sum in a sandbox is worth. -/
noncomputable def Yba.pinned : Pinned := { name := "ybulkzss", sum := "9c244f2e20f966c70d044209f550a9c1ef73eed366fc35b623442b3995a25005", checked := Yba.checked }
namespace Rows
def none {H : Type} : Left H := { results := [], args := [] }

/-- 'storage.LawS1292BSorted': WHATEVER THE INPUT: true; the input reads as it did. -/
def lawS1292BSortedSpec : ChangeSpec := { name := "lawS1292BSorted", fn := fun _ => fun
  | [d] => { results := [.lit (.bool true)], args := [d] }
  | _ => none }
def lawS1292BSortedRow : OpenClaim := { program := "ybulkzss", sum := "9c244f2e20f966c70d044209f550a9c1ef73eed366fc35b623442b3995a25005", func := "example.com/extremum/extremum/internal/storage.LawS1292BSorted", spec := "lawS1292BSorted", recurses := true, apart := false }
def LawS1292BSortedSaid : Prop := lawS1292BSortedRow.holds Yba.pinned (OpenSpec.ofChange lawS1292BSortedSpec)

/-- ITS FALSE NEIGHBOUR: 'it returns false'. Refute it at one input. -/
def lawS1292BSortedWrong : ChangeSpec := { name := "lawS1292BSorted", fn := fun _ => fun
  | [d] => { results := [.lit (.bool false)], args := [d] }
  | _ => none }
def LawS1292BSortedWrongFalsely : Prop := lawS1292BSortedRow.holds Yba.pinned (OpenSpec.ofChange lawS1292BSortedWrong)

/-- 'storage.LawS1292BRadix': WHATEVER THE INPUT: true; the input reads as it did. -/
def lawS1292BRadixSpec : ChangeSpec := { name := "lawS1292BRadix", fn := fun _ => fun
  | [d1, d2, d3, d4] => { results := [.lit (.bool true)], args := [d1, d2, d3, d4] }
  | _ => none }
def lawS1292BRadixRow : OpenClaim := { program := "ybulkzss", sum := "9c244f2e20f966c70d044209f550a9c1ef73eed366fc35b623442b3995a25005", func := "example.com/extremum/extremum/internal/storage.LawS1292BRadix", spec := "lawS1292BRadix", recurses := true, apart := false }
def LawS1292BRadixSaid : Prop := lawS1292BRadixRow.holds Yba.pinned (OpenSpec.ofChange lawS1292BRadixSpec)

/-- ITS FALSE NEIGHBOUR: 'it returns false'. Refute it at one input. -/
def lawS1292BRadixWrong : ChangeSpec := { name := "lawS1292BRadix", fn := fun _ => fun
  | [d1, d2, d3, d4] => { results := [.lit (.bool false)], args := [d1, d2, d3, d4] }
  | _ => none }
def LawS1292BRadixWrongFalsely : Prop := lawS1292BRadixRow.holds Yba.pinned (OpenSpec.ofChange lawS1292BRadixWrong)

end Rows
end Go.Proofs.Ybulkzss
