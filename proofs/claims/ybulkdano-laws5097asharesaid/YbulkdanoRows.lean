/-
  No cell of these rows narrows 'for every input' (looked for: loops, veiled, ifaces, maps, wideKeys, modest, calm, conditions, laid).
  DERIVED. THE GIVEN ROWS OF THIS SEAT. 3 by the template 'for every input the law returns true; each argument reads behind the call as it read before'; 0 by the template 'total and deterministic' (their statements: YbulkdanoTotals.lean).
  GIVEN WITH THE SEED: the statements are not yours to turn. If you find one false, say at which input.
  Laid BY PROGRAM, IN A SANDBOX (cutbox-rows.mjs): the forced cells as the released guide's own fill.sh prints them over the translation d8eb82c5c36092f4… (all of the seat's roots in one cut). By AI agents, Wed Nov 11 2026. No macro, syntax, notation, axiom, sorry.
-/
import Derived.Test.YbulkdanoChecked
import GoSem.Claim
import GoSem.ClaimJoined
import GoSem.ClaimMapViews
import Derived.JoinedTies
import Derived.KernelRfl
namespace Go.Proofs.Ybulkdano
/- THE CELL 'sum', in the pinned program and in every row, IS THE sha256 OF THE DUMP (.gsa) THAT YbulkdanoProg.lean LOADS. Nothing in Lean hashes anything: it is a label: what it is worth is what the hold of that sum in a sandbox is worth. -/
noncomputable def Yba.pinned : Pinned := { name := "ybulkdano", sum := "d8eb82c5c36092f47a8bfd94b46921e0df85d58d9e8fb1565e7fae87c6e7e61b", checked := Yba.checked }
namespace Rows
def none {H : Type} : Left H := { results := [], args := [] }

/-- 'sealwire.LawS5097AShare': WHATEVER THE INPUT: true; the input reads as it did. -/
def lawS5097AShareSpec : ChangeSpec := { name := "lawS5097AShare", fn := fun _ => fun
  | [d1, d2, d3, d4, d5] => { results := [.lit (.bool true)], args := [d1, d2, d3, d4, d5] }
  | _ => none }
def lawS5097AShareRow : OpenClaim := { program := "ybulkdano", sum := "d8eb82c5c36092f47a8bfd94b46921e0df85d58d9e8fb1565e7fae87c6e7e61b", func := "example.com/sealwire/sealwire.LawS5097AShare", spec := "lawS5097AShare", inPlace := ["sync/atomic.StoreUint64", "sync/atomic.LoadUint64"], apart := false }
def LawS5097AShareSaid : Prop := lawS5097AShareRow.holds Yba.pinned (OpenSpec.ofChange lawS5097AShareSpec)

/-- ITS FALSE NEIGHBOUR: 'it returns false'. Refute it at one input. -/
def lawS5097AShareWrong : ChangeSpec := { name := "lawS5097AShare", fn := fun _ => fun
  | [d1, d2, d3, d4, d5] => { results := [.lit (.bool false)], args := [d1, d2, d3, d4, d5] }
  | _ => none }
def LawS5097AShareWrongFalsely : Prop := lawS5097AShareRow.holds Yba.pinned (OpenSpec.ofChange lawS5097AShareWrong)

/-- 'sealwire.LawS5097BPick': WHATEVER THE INPUT: true; the input reads as it did. -/
def lawS5097BPickSpec : ChangeSpec := { name := "lawS5097BPick", fn := fun _ => fun
  | [d1, d2, d3, d4] => { results := [.lit (.bool true)], args := [d1, d2, d3, d4] }
  | _ => none }
def lawS5097BPickRow : OpenClaim := { program := "ybulkdano", sum := "d8eb82c5c36092f47a8bfd94b46921e0df85d58d9e8fb1565e7fae87c6e7e61b", func := "example.com/sealwire/sealwire.LawS5097BPick", spec := "lawS5097BPick", apart := false }
def LawS5097BPickSaid : Prop := lawS5097BPickRow.holds Yba.pinned (OpenSpec.ofChange lawS5097BPickSpec)

/-- ITS FALSE NEIGHBOUR: 'it returns false'. Refute it at one input. -/
def lawS5097BPickWrong : ChangeSpec := { name := "lawS5097BPick", fn := fun _ => fun
  | [d1, d2, d3, d4] => { results := [.lit (.bool false)], args := [d1, d2, d3, d4] }
  | _ => none }
def LawS5097BPickWrongFalsely : Prop := lawS5097BPickRow.holds Yba.pinned (OpenSpec.ofChange lawS5097BPickWrong)

/-- 'sealwire.LawS5097BNamed': WHATEVER THE INPUT: true; the input reads as it did. -/
def lawS5097BNamedSpec : ChangeSpec := { name := "lawS5097BNamed", fn := fun _ => fun
  | [d1, d2] => { results := [.lit (.bool true)], args := [d1, d2] }
  | _ => none }
def lawS5097BNamedRow : OpenClaim := { program := "ybulkdano", sum := "d8eb82c5c36092f47a8bfd94b46921e0df85d58d9e8fb1565e7fae87c6e7e61b", func := "example.com/sealwire/sealwire.LawS5097BNamed", spec := "lawS5097BNamed", apart := false }
def LawS5097BNamedSaid : Prop := lawS5097BNamedRow.holds Yba.pinned (OpenSpec.ofChange lawS5097BNamedSpec)

/-- ITS FALSE NEIGHBOUR: 'it returns false'. Refute it at one input. -/
def lawS5097BNamedWrong : ChangeSpec := { name := "lawS5097BNamed", fn := fun _ => fun
  | [d1, d2] => { results := [.lit (.bool false)], args := [d1, d2] }
  | _ => none }
def LawS5097BNamedWrongFalsely : Prop := lawS5097BNamedRow.holds Yba.pinned (OpenSpec.ofChange lawS5097BNamedWrong)

end Rows
end Go.Proofs.Ybulkdano
