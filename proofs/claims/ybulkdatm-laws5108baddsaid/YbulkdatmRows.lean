/-
  No cell of these rows narrows 'for every input' (looked for: loops, veiled, ifaces, maps, wideKeys, modest, calm, conditions, laid).
  DERIVED. THE GIVEN ROWS OF THIS SEAT. 4 by the template 'for every input the law returns true; each argument reads behind the call as it read before'; 0 by the template 'total and deterministic' (their statements: YbulkdatmTotals.lean).
  GIVEN WITH THE SEED: the statements are not yours to turn. If you find one false, say at which input.
  Laid BY PROGRAM, IN A SANDBOX (cutbox-rows.mjs): the forced cells as the released guide's own fill.sh prints them over the translation b36f3c8e834b7ded… (all of the seat's roots in one cut). By AI agents, Wed Nov 11 2026. No macro, syntax, notation, axiom, sorry.
-/
import Derived.Test.YbulkdatmChecked
import GoSem.Claim
import GoSem.ClaimJoined
import GoSem.ClaimMapViews
import Derived.JoinedTies
import Derived.KernelRfl
namespace Go.Proofs.Ybulkdatm
/- THE CELL 'sum', in the pinned program and in every row, IS THE sha256 OF THE DUMP (.gsa) THAT YbulkdatmProg.lean LOADS. Nothing in Lean hashes anything: it is a label: what it is worth is what the hold of that sum in a sandbox is worth. -/
noncomputable def Yba.pinned : Pinned := { name := "ybulkdatm", sum := "b36f3c8e834b7ded1a42019585781503f7f626332cf833d88a08a8d0d8eace2b", checked := Yba.checked }
namespace Rows
def none {H : Type} : Left H := { results := [], args := [] }

/-- 'leafsum.LawS5108ATreeHash': WHATEVER THE INPUT: true; the input reads as it did. -/
def lawS5108ATreeHashSpec : ChangeSpec := { name := "lawS5108ATreeHash", fn := fun _ => fun
  | [d1, d2] => { results := [.lit (.bool true)], args := [d1, d2] }
  | _ => none }
def lawS5108ATreeHashRow : OpenClaim := { program := "ybulkdatm", sum := "b36f3c8e834b7ded1a42019585781503f7f626332cf833d88a08a8d0d8eace2b", func := "example.com/leafsum/leafsum.LawS5108ATreeHash", spec := "lawS5108ATreeHash", unfollowed := true, recurses := true, apart := false }
def LawS5108ATreeHashSaid : Prop := lawS5108ATreeHashRow.holds Yba.pinned (OpenSpec.ofChange lawS5108ATreeHashSpec)

/-- ITS FALSE NEIGHBOUR: 'it returns false'. Refute it at one input. -/
def lawS5108ATreeHashWrong : ChangeSpec := { name := "lawS5108ATreeHash", fn := fun _ => fun
  | [d1, d2] => { results := [.lit (.bool false)], args := [d1, d2] }
  | _ => none }
def LawS5108ATreeHashWrongFalsely : Prop := lawS5108ATreeHashRow.holds Yba.pinned (OpenSpec.ofChange lawS5108ATreeHashWrong)

/-- 'leafsum.LawS5108AFoldRight': WHATEVER THE INPUT: true; the input reads as it did. -/
def lawS5108AFoldRightSpec : ChangeSpec := { name := "lawS5108AFoldRight", fn := fun _ => fun
  | [d1, d2] => { results := [.lit (.bool true)], args := [d1, d2] }
  | _ => none }
def lawS5108AFoldRightRow : OpenClaim := { program := "ybulkdatm", sum := "b36f3c8e834b7ded1a42019585781503f7f626332cf833d88a08a8d0d8eace2b", func := "example.com/leafsum/leafsum.LawS5108AFoldRight", spec := "lawS5108AFoldRight", unfollowed := true, recurses := true, apart := false }
def LawS5108AFoldRightSaid : Prop := lawS5108AFoldRightRow.holds Yba.pinned (OpenSpec.ofChange lawS5108AFoldRightSpec)

/-- ITS FALSE NEIGHBOUR: 'it returns false'. Refute it at one input. -/
def lawS5108AFoldRightWrong : ChangeSpec := { name := "lawS5108AFoldRight", fn := fun _ => fun
  | [d1, d2] => { results := [.lit (.bool false)], args := [d1, d2] }
  | _ => none }
def LawS5108AFoldRightWrongFalsely : Prop := lawS5108AFoldRightRow.holds Yba.pinned (OpenSpec.ofChange lawS5108AFoldRightWrong)

/-- 'leafsum.LawS5108BModel': WHATEVER THE INPUT: true; the input reads as it did. -/
def lawS5108BModelSpec : ChangeSpec := { name := "lawS5108BModel", fn := fun _ => fun
  | [d1, d2] => { results := [.lit (.bool true)], args := [d1, d2] }
  | _ => none }
def lawS5108BModelRow : OpenClaim := { program := "ybulkdatm", sum := "b36f3c8e834b7ded1a42019585781503f7f626332cf833d88a08a8d0d8eace2b", func := "example.com/leafsum/leafsum.LawS5108BModel", spec := "lawS5108BModel", apart := false }
def LawS5108BModelSaid : Prop := lawS5108BModelRow.holds Yba.pinned (OpenSpec.ofChange lawS5108BModelSpec)

/-- ITS FALSE NEIGHBOUR: 'it returns false'. Refute it at one input. -/
def lawS5108BModelWrong : ChangeSpec := { name := "lawS5108BModel", fn := fun _ => fun
  | [d1, d2] => { results := [.lit (.bool false)], args := [d1, d2] }
  | _ => none }
def LawS5108BModelWrongFalsely : Prop := lawS5108BModelRow.holds Yba.pinned (OpenSpec.ofChange lawS5108BModelWrong)

/-- 'leafsum.LawS5108BAdd': WHATEVER THE INPUT: true; the input reads as it did. -/
def lawS5108BAddSpec : ChangeSpec := { name := "lawS5108BAdd", fn := fun _ => fun
  | [d1, d2, d3] => { results := [.lit (.bool true)], args := [d1, d2, d3] }
  | _ => none }
def lawS5108BAddRow : OpenClaim := { program := "ybulkdatm", sum := "b36f3c8e834b7ded1a42019585781503f7f626332cf833d88a08a8d0d8eace2b", func := "example.com/leafsum/leafsum.LawS5108BAdd", spec := "lawS5108BAdd", apart := false }
def LawS5108BAddSaid : Prop := lawS5108BAddRow.holds Yba.pinned (OpenSpec.ofChange lawS5108BAddSpec)

/-- ITS FALSE NEIGHBOUR: 'it returns false'. Refute it at one input. -/
def lawS5108BAddWrong : ChangeSpec := { name := "lawS5108BAdd", fn := fun _ => fun
  | [d1, d2, d3] => { results := [.lit (.bool false)], args := [d1, d2, d3] }
  | _ => none }
def LawS5108BAddWrongFalsely : Prop := lawS5108BAddRow.holds Yba.pinned (OpenSpec.ofChange lawS5108BAddWrong)

end Rows
end Go.Proofs.Ybulkdatm
