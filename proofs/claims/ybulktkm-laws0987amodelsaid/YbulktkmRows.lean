/-
  No cell of these rows narrows 'for every input' (looked for: loops, veiled, ifaces, maps, wideKeys, modest, calm, conditions, laid).
  DERIVED. THE GIVEN ROWS OF THIS SEAT. 2 by the template 'for every input the law returns true; each argument reads behind the call as it read before'; 0 by the template 'total and deterministic' (their statements: YbulktkmTotals.lean).
  GIVEN WITH THE SEED: the statements are not yours to turn. If you find one false, say at which input.
  Laid BY PROGRAM, IN A SANDBOX (cutbox-rows.mjs): the forced cells as the released guide's own fill.sh prints them over the translation f05e772a6e728dde… (all of the seat's roots in one cut). By AI agents, Wed Nov 11 2026. No macro, syntax, notation, axiom, sorry.
-/
import Derived.Test.YbulktkmChecked
import GoSem.Claim
import GoSem.ClaimJoined
import GoSem.ClaimMapViews
import Derived.JoinedTies
import Derived.KernelRfl
namespace Go.Proofs.Ybulktkm
/- THE CELL 'sum', in the pinned program and in every row, IS THE sha256 OF THE DUMP (.gsa) THAT YbulktkmProg.lean LOADS. Nothing in Lean hashes anything: it is a label: what it is worth is what the hold of that sum in a sandbox is worth. -/
noncomputable def Yba.pinned : Pinned := { name := "ybulktkm", sum := "f05e772a6e728ddeb3394d9708b68ca7f073c9a8cfeeb4005f60eb188ca38a8e", checked := Yba.checked }
namespace Rows
def none {H : Type} : Left H := { results := [], args := [] }

/-- 'el.LawS0987AModel': WHATEVER THE INPUT: true; the input reads as it did. -/
def lawS0987AModelSpec : ChangeSpec := { name := "lawS0987AModel", fn := fun _ => fun
  | [d1, d2, d3, d4, d5, d6] => { results := [.lit (.bool true)], args := [d1, d2, d3, d4, d5, d6] }
  | _ => none }
def lawS0987AModelRow : OpenClaim := { program := "ybulktkm", sum := "f05e772a6e728ddeb3394d9708b68ca7f073c9a8cfeeb4005f60eb188ca38a8e", func := "example.com/tagwright/tagwright/el.LawS0987AModel", spec := "lawS0987AModel", recurses := true, apart := false }
def LawS0987AModelSaid : Prop := lawS0987AModelRow.holds Yba.pinned (OpenSpec.ofChange lawS0987AModelSpec)

/-- ITS FALSE NEIGHBOUR: 'it returns false'. Refute it at one input. -/
def lawS0987AModelWrong : ChangeSpec := { name := "lawS0987AModel", fn := fun _ => fun
  | [d1, d2, d3, d4, d5, d6] => { results := [.lit (.bool false)], args := [d1, d2, d3, d4, d5, d6] }
  | _ => none }
def LawS0987AModelWrongFalsely : Prop := lawS0987AModelRow.holds Yba.pinned (OpenSpec.ofChange lawS0987AModelWrong)

/-- 'el.LawS0987AOtherIsV': WHATEVER THE INPUT: true; the input reads as it did. -/
def lawS0987AOtherIsVSpec : ChangeSpec := { name := "lawS0987AOtherIsV", fn := fun _ => fun
  | [d1, d2, d3, d4, d5] => { results := [.lit (.bool true)], args := [d1, d2, d3, d4, d5] }
  | _ => none }
def lawS0987AOtherIsVRow : OpenClaim := { program := "ybulktkm", sum := "f05e772a6e728ddeb3394d9708b68ca7f073c9a8cfeeb4005f60eb188ca38a8e", func := "example.com/tagwright/tagwright/el.LawS0987AOtherIsV", spec := "lawS0987AOtherIsV", recurses := true, apart := false }
def LawS0987AOtherIsVSaid : Prop := lawS0987AOtherIsVRow.holds Yba.pinned (OpenSpec.ofChange lawS0987AOtherIsVSpec)

/-- ITS FALSE NEIGHBOUR: 'it returns false'. Refute it at one input. -/
def lawS0987AOtherIsVWrong : ChangeSpec := { name := "lawS0987AOtherIsV", fn := fun _ => fun
  | [d1, d2, d3, d4, d5] => { results := [.lit (.bool false)], args := [d1, d2, d3, d4, d5] }
  | _ => none }
def LawS0987AOtherIsVWrongFalsely : Prop := lawS0987AOtherIsVRow.holds Yba.pinned (OpenSpec.ofChange lawS0987AOtherIsVWrong)

end Rows
end Go.Proofs.Ybulktkm
