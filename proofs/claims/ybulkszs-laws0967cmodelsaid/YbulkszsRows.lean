/-
  No cell of these rows narrows 'for every input' (looked for: loops, veiled, ifaces, maps, wideKeys, modest, calm, conditions, laid).
  DERIVED. THE GIVEN ROWS OF THIS SEAT. 6 by the template 'for every input the law returns true; each argument reads behind the call as it read before'; 0 by the template 'total and deterministic' (their statements: YbulkszsTotals.lean).
  GIVEN WITH THE SEED: the statements are not yours to turn. If you find one false, say at which input.
  Laid BY PROGRAM, IN A SANDBOX (cutbox-rows.mjs): the forced cells as the released guide's own fill.sh prints them over the translation e3fda5c6d6a8db21… (all of the seat's roots in one cut). By AI agents, Wed Nov 11 2026. No macro, syntax, notation, axiom, sorry.
-/
import Derived.Test.YbulkszsChecked
import GoSem.Claim
import GoSem.ClaimJoined
import GoSem.ClaimMapViews
import Derived.JoinedTies
import Derived.KernelRfl
namespace Go.Proofs.Ybulkszs
/- THE CELL 'sum', in the pinned program and in every row, IS THE sha256 OF THE DUMP (.gsa) THAT YbulkszsProg.lean LOADS. Nothing in Lean hashes anything: it is a label: what it is worth is what the hold of that sum in a sandbox is worth. -/
noncomputable def Yba.pinned : Pinned := { name := "ybulkszs", sum := "e3fda5c6d6a8db2127d2353b1be747d9005c4f91589644176fc60b3aae4c7442", checked := Yba.checked }
namespace Rows
def none {H : Type} : Left H := { results := [], args := [] }

/-- 'holdfast.LawS0967AExact': WHATEVER THE INPUT: true; the input reads as it did. -/
def lawS0967AExactSpec : ChangeSpec := { name := "lawS0967AExact", fn := fun _ => fun
  | [d1, d2, d3, d4, d5, d6, d7, d8] => { results := [.lit (.bool true)], args := [d1, d2, d3, d4, d5, d6, d7, d8] }
  | _ => none }
def lawS0967AExactRow : OpenClaim := { program := "ybulkszs", sum := "e3fda5c6d6a8db2127d2353b1be747d9005c4f91589644176fc60b3aae4c7442", func := "example.com/holdfast/holdfast.LawS0967AExact", spec := "lawS0967AExact", plainKeys := false, apart := false }
def LawS0967AExactSaid : Prop := lawS0967AExactRow.holds Yba.pinned (OpenSpec.ofChange lawS0967AExactSpec)

/-- ITS FALSE NEIGHBOUR: 'it returns false'. Refute it at one input. -/
def lawS0967AExactWrong : ChangeSpec := { name := "lawS0967AExact", fn := fun _ => fun
  | [d1, d2, d3, d4, d5, d6, d7, d8] => { results := [.lit (.bool false)], args := [d1, d2, d3, d4, d5, d6, d7, d8] }
  | _ => none }
def LawS0967AExactWrongFalsely : Prop := lawS0967AExactRow.holds Yba.pinned (OpenSpec.ofChange lawS0967AExactWrong)

/-- 'holdfast.LawS0967AHomeListed': WHATEVER THE INPUT: true; the input reads as it did. -/
def lawS0967AHomeListedSpec : ChangeSpec := { name := "lawS0967AHomeListed", fn := fun _ => fun
  | [d1, d2, d3, d4, d5, d6] => { results := [.lit (.bool true)], args := [d1, d2, d3, d4, d5, d6] }
  | _ => none }
def lawS0967AHomeListedRow : OpenClaim := { program := "ybulkszs", sum := "e3fda5c6d6a8db2127d2353b1be747d9005c4f91589644176fc60b3aae4c7442", func := "example.com/holdfast/holdfast.LawS0967AHomeListed", spec := "lawS0967AHomeListed", plainKeys := false, apart := false }
def LawS0967AHomeListedSaid : Prop := lawS0967AHomeListedRow.holds Yba.pinned (OpenSpec.ofChange lawS0967AHomeListedSpec)

/-- ITS FALSE NEIGHBOUR: 'it returns false'. Refute it at one input. -/
def lawS0967AHomeListedWrong : ChangeSpec := { name := "lawS0967AHomeListed", fn := fun _ => fun
  | [d1, d2, d3, d4, d5, d6] => { results := [.lit (.bool false)], args := [d1, d2, d3, d4, d5, d6] }
  | _ => none }
def LawS0967AHomeListedWrongFalsely : Prop := lawS0967AHomeListedRow.holds Yba.pinned (OpenSpec.ofChange lawS0967AHomeListedWrong)

/-- 'holdfast.LawS0967BTable': WHATEVER THE INPUT: true; the input reads as it did. -/
def lawS0967BTableSpec : ChangeSpec := { name := "lawS0967BTable", fn := fun _ => fun
  | [d1, d2] => { results := [.lit (.bool true)], args := [d1, d2] }
  | _ => none }
def lawS0967BTableRow : OpenClaim := { program := "ybulkszs", sum := "e3fda5c6d6a8db2127d2353b1be747d9005c4f91589644176fc60b3aae4c7442", func := "example.com/holdfast/holdfast.LawS0967BTable", spec := "lawS0967BTable", plainKeys := false, apart := false }
def LawS0967BTableSaid : Prop := lawS0967BTableRow.holds Yba.pinned (OpenSpec.ofChange lawS0967BTableSpec)

/-- ITS FALSE NEIGHBOUR: 'it returns false'. Refute it at one input. -/
def lawS0967BTableWrong : ChangeSpec := { name := "lawS0967BTable", fn := fun _ => fun
  | [d1, d2] => { results := [.lit (.bool false)], args := [d1, d2] }
  | _ => none }
def LawS0967BTableWrongFalsely : Prop := lawS0967BTableRow.holds Yba.pinned (OpenSpec.ofChange lawS0967BTableWrong)

/-- 'holdfast.LawS0967BKeyFor': WHATEVER THE INPUT: true; the input reads as it did. -/
def lawS0967BKeyForSpec : ChangeSpec := { name := "lawS0967BKeyFor", fn := fun _ => fun
  | [d1, d2] => { results := [.lit (.bool true)], args := [d1, d2] }
  | _ => none }
def lawS0967BKeyForRow : OpenClaim := { program := "ybulkszs", sum := "e3fda5c6d6a8db2127d2353b1be747d9005c4f91589644176fc60b3aae4c7442", func := "example.com/holdfast/holdfast.LawS0967BKeyFor", spec := "lawS0967BKeyFor", plainKeys := false, apart := false }
def LawS0967BKeyForSaid : Prop := lawS0967BKeyForRow.holds Yba.pinned (OpenSpec.ofChange lawS0967BKeyForSpec)

/-- ITS FALSE NEIGHBOUR: 'it returns false'. Refute it at one input. -/
def lawS0967BKeyForWrong : ChangeSpec := { name := "lawS0967BKeyFor", fn := fun _ => fun
  | [d1, d2] => { results := [.lit (.bool false)], args := [d1, d2] }
  | _ => none }
def LawS0967BKeyForWrongFalsely : Prop := lawS0967BKeyForRow.holds Yba.pinned (OpenSpec.ofChange lawS0967BKeyForWrong)

/-- 'holdfast.LawS0967BSelf': WHATEVER THE INPUT: true; the input reads as it did. -/
def lawS0967BSelfSpec : ChangeSpec := { name := "lawS0967BSelf", fn := fun _ => fun
  | [d1, d2, d3, d4] => { results := [.lit (.bool true)], args := [d1, d2, d3, d4] }
  | _ => none }
def lawS0967BSelfRow : OpenClaim := { program := "ybulkszs", sum := "e3fda5c6d6a8db2127d2353b1be747d9005c4f91589644176fc60b3aae4c7442", func := "example.com/holdfast/holdfast.LawS0967BSelf", spec := "lawS0967BSelf", plainKeys := false, apart := false }
def LawS0967BSelfSaid : Prop := lawS0967BSelfRow.holds Yba.pinned (OpenSpec.ofChange lawS0967BSelfSpec)

/-- ITS FALSE NEIGHBOUR: 'it returns false'. Refute it at one input. -/
def lawS0967BSelfWrong : ChangeSpec := { name := "lawS0967BSelf", fn := fun _ => fun
  | [d1, d2, d3, d4] => { results := [.lit (.bool false)], args := [d1, d2, d3, d4] }
  | _ => none }
def LawS0967BSelfWrongFalsely : Prop := lawS0967BSelfRow.holds Yba.pinned (OpenSpec.ofChange lawS0967BSelfWrong)

/-- 'holdfast.LawS0967CModel': WHATEVER THE INPUT: true; the input reads as it did. -/
def lawS0967CModelSpec : ChangeSpec := { name := "lawS0967CModel", fn := fun _ => fun
  | [d1, d2, d3, d4, d5, d6, d7] => { results := [.lit (.bool true)], args := [d1, d2, d3, d4, d5, d6, d7] }
  | _ => none }
def lawS0967CModelRow : OpenClaim := { program := "ybulkszs", sum := "e3fda5c6d6a8db2127d2353b1be747d9005c4f91589644176fc60b3aae4c7442", func := "example.com/holdfast/holdfast.LawS0967CModel", spec := "lawS0967CModel", unfollowed := true, recurses := true, plainKeys := false, apart := false }
def LawS0967CModelSaid : Prop := lawS0967CModelRow.holds Yba.pinned (OpenSpec.ofChange lawS0967CModelSpec)

/-- ITS FALSE NEIGHBOUR: 'it returns false'. Refute it at one input. -/
def lawS0967CModelWrong : ChangeSpec := { name := "lawS0967CModel", fn := fun _ => fun
  | [d1, d2, d3, d4, d5, d6, d7] => { results := [.lit (.bool false)], args := [d1, d2, d3, d4, d5, d6, d7] }
  | _ => none }
def LawS0967CModelWrongFalsely : Prop := lawS0967CModelRow.holds Yba.pinned (OpenSpec.ofChange lawS0967CModelWrong)

end Rows
end Go.Proofs.Ybulkszs
