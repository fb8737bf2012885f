/-
  No cell of these rows narrows 'for every input' (looked for: loops, veiled, ifaces, maps, wideKeys, modest, calm, conditions, laid).
  DERIVED. THE GIVEN ROWS OF THIS SEAT. 5 by the template 'for every input the law returns true; each argument reads behind the call as it read before'; 0 by the template 'total and deterministic' (their statements: YbulkafhoTotals.lean).
  GIVEN WITH THE SEED: the statements are not yours to turn. If you find one false, say at which input.
  Laid BY PROGRAM, IN A SANDBOX (cutbox-rows.mjs): the forced cells as the released guide's own fill.sh prints them over the translation 116699a0679a7e24… (all of the seat's roots in one cut). By AI agents, Wed Nov 11 2026. No macro, syntax, notation, axiom, sorry.
-/
import Derived.Test.YbulkafhoChecked
import GoSem.Claim
import GoSem.ClaimJoined
import GoSem.ClaimMapViews
import Derived.JoinedTies
import Derived.KernelRfl
namespace Go.Proofs.Ybulkafho
/- THE CELL 'sum', in the pinned program and in every row, IS THE sha256 OF THE DUMP (.gsa) THAT YbulkafhoProg.lean LOADS. Nothing in Lean hashes anything: it is a label: what it is worth is what the hold of that sum in a sandbox is worth. -/
noncomputable def Yba.pinned : Pinned := { name := "ybulkafho", sum := "116699a0679a7e2457bf121fb35867f27eae79f03f977142ac608767d62a1965", checked := Yba.checked }
namespace Rows
def none {H : Type} : Left H := { results := [], args := [] }

/-- 'protocol.LawS1561AYields': WHATEVER THE INPUT: true; the input reads as it did. -/
def lawS1561AYieldsSpec : ChangeSpec := { name := "lawS1561AYields", fn := fun _ => fun
  | [d1, d2, d3, d4] => { results := [.lit (.bool true)], args := [d1, d2, d3, d4] }
  | _ => none }
def lawS1561AYieldsRow : OpenClaim := { program := "ybulkafho", sum := "116699a0679a7e2457bf121fb35867f27eae79f03f977142ac608767d62a1965", func := "example.com/wardenmesh/wardenmesh/internal/protocol.LawS1561AYields", spec := "lawS1561AYields", unfollowed := true, recurses := true, apart := false }
def LawS1561AYieldsSaid : Prop := lawS1561AYieldsRow.holds Yba.pinned (OpenSpec.ofChange lawS1561AYieldsSpec)

/-- ITS FALSE NEIGHBOUR: 'it returns false'. Refute it at one input. -/
def lawS1561AYieldsWrong : ChangeSpec := { name := "lawS1561AYields", fn := fun _ => fun
  | [d1, d2, d3, d4] => { results := [.lit (.bool false)], args := [d1, d2, d3, d4] }
  | _ => none }
def LawS1561AYieldsWrongFalsely : Prop := lawS1561AYieldsRow.holds Yba.pinned (OpenSpec.ofChange lawS1561AYieldsWrong)

/-- 'protocol.LawS1561AStops': WHATEVER THE INPUT: true; the input reads as it did. -/
def lawS1561AStopsSpec : ChangeSpec := { name := "lawS1561AStops", fn := fun _ => fun
  | [d1, d2, d3, d4, d5] => { results := [.lit (.bool true)], args := [d1, d2, d3, d4, d5] }
  | _ => none }
def lawS1561AStopsRow : OpenClaim := { program := "ybulkafho", sum := "116699a0679a7e2457bf121fb35867f27eae79f03f977142ac608767d62a1965", func := "example.com/wardenmesh/wardenmesh/internal/protocol.LawS1561AStops", spec := "lawS1561AStops", unfollowed := true, recurses := true, apart := false }
def LawS1561AStopsSaid : Prop := lawS1561AStopsRow.holds Yba.pinned (OpenSpec.ofChange lawS1561AStopsSpec)

/-- ITS FALSE NEIGHBOUR: 'it returns false'. Refute it at one input. -/
def lawS1561AStopsWrong : ChangeSpec := { name := "lawS1561AStops", fn := fun _ => fun
  | [d1, d2, d3, d4, d5] => { results := [.lit (.bool false)], args := [d1, d2, d3, d4, d5] }
  | _ => none }
def LawS1561AStopsWrongFalsely : Prop := lawS1561AStopsRow.holds Yba.pinned (OpenSpec.ofChange lawS1561AStopsWrong)

/-- 'protocol.LawS1561BExact': WHATEVER THE INPUT: true; the input reads as it did. -/
def lawS1561BExactSpec : ChangeSpec := { name := "lawS1561BExact", fn := fun _ => fun
  | [d1, d2, d3, d4] => { results := [.lit (.bool true)], args := [d1, d2, d3, d4] }
  | _ => none }
def lawS1561BExactRow : OpenClaim := { program := "ybulkafho", sum := "116699a0679a7e2457bf121fb35867f27eae79f03f977142ac608767d62a1965", func := "example.com/wardenmesh/wardenmesh/internal/protocol.LawS1561BExact", spec := "lawS1561BExact", unfollowed := true, recurses := true, apart := false }
def LawS1561BExactSaid : Prop := lawS1561BExactRow.holds Yba.pinned (OpenSpec.ofChange lawS1561BExactSpec)

/-- ITS FALSE NEIGHBOUR: 'it returns false'. Refute it at one input. -/
def lawS1561BExactWrong : ChangeSpec := { name := "lawS1561BExact", fn := fun _ => fun
  | [d1, d2, d3, d4] => { results := [.lit (.bool false)], args := [d1, d2, d3, d4] }
  | _ => none }
def LawS1561BExactWrongFalsely : Prop := lawS1561BExactRow.holds Yba.pinned (OpenSpec.ofChange lawS1561BExactWrong)

/-- 'protocol.LawS1561BAncestor': WHATEVER THE INPUT: true; the input reads as it did. -/
def lawS1561BAncestorSpec : ChangeSpec := { name := "lawS1561BAncestor", fn := fun _ => fun
  | [d1, d2, d3, d4, d5] => { results := [.lit (.bool true)], args := [d1, d2, d3, d4, d5] }
  | _ => none }
def lawS1561BAncestorRow : OpenClaim := { program := "ybulkafho", sum := "116699a0679a7e2457bf121fb35867f27eae79f03f977142ac608767d62a1965", func := "example.com/wardenmesh/wardenmesh/internal/protocol.LawS1561BAncestor", spec := "lawS1561BAncestor", unfollowed := true, recurses := true, apart := false }
def LawS1561BAncestorSaid : Prop := lawS1561BAncestorRow.holds Yba.pinned (OpenSpec.ofChange lawS1561BAncestorSpec)

/-- ITS FALSE NEIGHBOUR: 'it returns false'. Refute it at one input. -/
def lawS1561BAncestorWrong : ChangeSpec := { name := "lawS1561BAncestor", fn := fun _ => fun
  | [d1, d2, d3, d4, d5] => { results := [.lit (.bool false)], args := [d1, d2, d3, d4, d5] }
  | _ => none }
def LawS1561BAncestorWrongFalsely : Prop := lawS1561BAncestorRow.holds Yba.pinned (OpenSpec.ofChange lawS1561BAncestorWrong)

/-- 'protocol.LawS1561CCopy': WHATEVER THE INPUT: true; the input reads as it did. -/
def lawS1561CCopySpec : ChangeSpec := { name := "lawS1561CCopy", fn := fun _ => fun
  | [d1, d2] => { results := [.lit (.bool true)], args := [d1, d2] }
  | _ => none }
def lawS1561CCopyRow : OpenClaim := { program := "ybulkafho", sum := "116699a0679a7e2457bf121fb35867f27eae79f03f977142ac608767d62a1965", func := "example.com/wardenmesh/wardenmesh/internal/protocol.LawS1561CCopy", spec := "lawS1561CCopy", apart := false }
def LawS1561CCopySaid : Prop := lawS1561CCopyRow.holds Yba.pinned (OpenSpec.ofChange lawS1561CCopySpec)

/-- ITS FALSE NEIGHBOUR: 'it returns false'. Refute it at one input. -/
def lawS1561CCopyWrong : ChangeSpec := { name := "lawS1561CCopy", fn := fun _ => fun
  | [d1, d2] => { results := [.lit (.bool false)], args := [d1, d2] }
  | _ => none }
def LawS1561CCopyWrongFalsely : Prop := lawS1561CCopyRow.holds Yba.pinned (OpenSpec.ofChange lawS1561CCopyWrong)

end Rows
end Go.Proofs.Ybulkafho
