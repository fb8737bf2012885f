/-
  No cell of these rows narrows 'for every input' (looked for: loops, veiled, ifaces, maps, wideKeys, modest, calm, conditions, laid).
  DERIVED. THE GIVEN ROWS OF THIS SEAT. 4 by the template 'for every input the law returns true; each argument reads behind the call as it read before'; 0 by the template 'total and deterministic' (their statements: YbulkaficTotals.lean).
  GIVEN WITH THE SEED: the statements are not yours to turn. If you find one false, say at which input.
  Laid BY PROGRAM, IN A SANDBOX (cutbox-rows.mjs): the forced cells as the released guide's own fill.sh prints them over the translation eabaf2564cfc2442… (all of the seat's roots in one cut). By AI agents, Wed Nov 11 2026. No macro, syntax, notation, axiom, sorry.
-/
import Derived.Test.YbulkaficChecked
import GoSem.Claim
import GoSem.ClaimJoined
import GoSem.ClaimMapViews
import Derived.JoinedTies
import Derived.KernelRfl
namespace Go.Proofs.Ybulkafic
/- THE CELL 'sum', in the pinned program and in every row, IS THE sha256 OF THE DUMP (.gsa) THAT YbulkaficProg.lean LOADS. Nothing in Lean hashes anything: it is a label: what it is worth is what the hold of that sum in a sandbox is worth. -/
noncomputable def Yba.pinned : Pinned := { name := "ybulkafic", sum := "eabaf2564cfc244217f2432c9f75ec04ad1723b638142ca5734aac65df6fb630", checked := Yba.checked }
namespace Rows
def none {H : Type} : Left H := { results := [], args := [] }

/-- 'engine.LawS1562BModel': WHATEVER THE INPUT: true; the input reads as it did. -/
def lawS1562BModelSpec : ChangeSpec := { name := "lawS1562BModel", fn := fun _ => fun
  | [d1, d2] => { results := [.lit (.bool true)], args := [d1, d2] }
  | _ => none }
def lawS1562BModelRow : OpenClaim := { program := "ybulkafic", sum := "eabaf2564cfc244217f2432c9f75ec04ad1723b638142ca5734aac65df6fb630", func := "example.com/hearsay/hearsay/engine.LawS1562BModel", spec := "lawS1562BModel", unfollowed := true, recurses := true, plainKeys := false, apart := false }
def LawS1562BModelSaid : Prop := lawS1562BModelRow.holds Yba.pinned (OpenSpec.ofChange lawS1562BModelSpec)

/-- ITS FALSE NEIGHBOUR: 'it returns false'. Refute it at one input. -/
def lawS1562BModelWrong : ChangeSpec := { name := "lawS1562BModel", fn := fun _ => fun
  | [d1, d2] => { results := [.lit (.bool false)], args := [d1, d2] }
  | _ => none }
def LawS1562BModelWrongFalsely : Prop := lawS1562BModelRow.holds Yba.pinned (OpenSpec.ofChange lawS1562BModelWrong)

/-- 'engine.LawS1562CItems': WHATEVER THE INPUT: true; the input reads as it did. -/
def lawS1562CItemsSpec : ChangeSpec := { name := "lawS1562CItems", fn := fun _ => fun
  | [d] => { results := [.lit (.bool true)], args := [d] }
  | _ => none }
def lawS1562CItemsRow : OpenClaim := { program := "ybulkafic", sum := "eabaf2564cfc244217f2432c9f75ec04ad1723b638142ca5734aac65df6fb630", func := "example.com/hearsay/hearsay/engine.LawS1562CItems", spec := "lawS1562CItems", unfollowed := true, recurses := true, plainKeys := false, apart := false }
def LawS1562CItemsSaid : Prop := lawS1562CItemsRow.holds Yba.pinned (OpenSpec.ofChange lawS1562CItemsSpec)

/-- ITS FALSE NEIGHBOUR: 'it returns false'. Refute it at one input. -/
def lawS1562CItemsWrong : ChangeSpec := { name := "lawS1562CItems", fn := fun _ => fun
  | [d] => { results := [.lit (.bool false)], args := [d] }
  | _ => none }
def LawS1562CItemsWrongFalsely : Prop := lawS1562CItemsRow.holds Yba.pinned (OpenSpec.ofChange lawS1562CItemsWrong)

/-- 'engine.LawS1562CRemoveAll': WHATEVER THE INPUT: true; the input reads as it did. -/
def lawS1562CRemoveAllSpec : ChangeSpec := { name := "lawS1562CRemoveAll", fn := fun _ => fun
  | [d] => { results := [.lit (.bool true)], args := [d] }
  | _ => none }
def lawS1562CRemoveAllRow : OpenClaim := { program := "ybulkafic", sum := "eabaf2564cfc244217f2432c9f75ec04ad1723b638142ca5734aac65df6fb630", func := "example.com/hearsay/hearsay/engine.LawS1562CRemoveAll", spec := "lawS1562CRemoveAll", unfollowed := true, recurses := true, plainKeys := false, apart := false }
def LawS1562CRemoveAllSaid : Prop := lawS1562CRemoveAllRow.holds Yba.pinned (OpenSpec.ofChange lawS1562CRemoveAllSpec)

/-- ITS FALSE NEIGHBOUR: 'it returns false'. Refute it at one input. -/
def lawS1562CRemoveAllWrong : ChangeSpec := { name := "lawS1562CRemoveAll", fn := fun _ => fun
  | [d] => { results := [.lit (.bool false)], args := [d] }
  | _ => none }
def LawS1562CRemoveAllWrongFalsely : Prop := lawS1562CRemoveAllRow.holds Yba.pinned (OpenSpec.ofChange lawS1562CRemoveAllWrong)

/-- 'engine.LawS1562CStop': WHATEVER THE INPUT: true; the input reads as it did. -/
def lawS1562CStopSpec : ChangeSpec := { name := "lawS1562CStop", fn := fun _ => fun
  | [d] => { results := [.lit (.bool true)], args := [d] }
  | _ => none }
def lawS1562CStopRow : OpenClaim := { program := "ybulkafic", sum := "eabaf2564cfc244217f2432c9f75ec04ad1723b638142ca5734aac65df6fb630", func := "example.com/hearsay/hearsay/engine.LawS1562CStop", spec := "lawS1562CStop", unfollowed := true, recurses := true, plainKeys := false, apart := false }
def LawS1562CStopSaid : Prop := lawS1562CStopRow.holds Yba.pinned (OpenSpec.ofChange lawS1562CStopSpec)

/-- ITS FALSE NEIGHBOUR: 'it returns false'. Refute it at one input. -/
def lawS1562CStopWrong : ChangeSpec := { name := "lawS1562CStop", fn := fun _ => fun
  | [d] => { results := [.lit (.bool false)], args := [d] }
  | _ => none }
def LawS1562CStopWrongFalsely : Prop := lawS1562CStopRow.holds Yba.pinned (OpenSpec.ofChange lawS1562CStopWrong)

end Rows
end Go.Proofs.Ybulkafic
