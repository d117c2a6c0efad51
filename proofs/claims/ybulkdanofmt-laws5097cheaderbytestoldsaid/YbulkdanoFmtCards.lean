/-
  DERIVED. GIVEN WITH THE SEED: THE CARDS: each row of YbulkdanoFmtRows.lean that lists a variable, with what it lists TIED to the program's text (the seventh form; the later family's looks); each row that meets fmt, with fmt's text TOLD by the authors' own Lean function (tested against real Go, not proved from fmt's source: count such statements apart). THE CARD IS WHAT COUNTS. Prove the row's statement (the work); the ties are given (YbulkdanoFmtTie.lean); close each card by the builder's one call (the guide's Derived/Test/ToyasCard.lean, 'card_holds'). Laid BY PROGRAM, IN A SANDBOX (cutbox-door.mjs). By AI agents, Wed Nov 11 2026. No macro, syntax, notation, axiom, sorry.
-/
import Derived.Test.YbulkdanoFmtRows
import GoSem.ClaimSeven
namespace Go.Proofs.YbulkdanoFmt
namespace Rows

/-- THE TOLD AND TIED CARD OF 'pcap.LawS5097CHeaderBytes'. -/
def lawS5097CHeaderBytesCard : Claim7 := { stood := { row := lawS5097CHeaderBytesRow, standIns := [], harness := (true, "25efa4c545ebaa40a01f1aac2f383f9026e63796641d49f48c275ceab5f2fe20"), looks := true }, told := true, laidByText := true, laidKinds := [.sentinel], laidTests := true, laidLooks := .later, goes := false }
def LawS5097CHeaderBytesToldSaid : Prop := Claim7.holds Ybaf.pinned (.plain (OpenSpec.ofChange lawS5097CHeaderBytesSpec)) lawS5097CHeaderBytesCard
/-- ITS FALSE NEIGHBOUR. Refute it at one input. -/
def LawS5097CHeaderBytesToldWrongFalsely : Prop := Claim7.holds Ybaf.pinned (.plain (OpenSpec.ofChange lawS5097CHeaderBytesWrong)) lawS5097CHeaderBytesCard

/-- THE TOLD AND TIED CARD OF 'pcap.LawS5097CFailingSink'. -/
def lawS5097CFailingSinkCard : Claim7 := { stood := { row := lawS5097CFailingSinkRow, standIns := [], harness := (true, "25efa4c545ebaa40a01f1aac2f383f9026e63796641d49f48c275ceab5f2fe20"), looks := true }, told := true, laidByText := true, laidKinds := [.sentinel], laidTests := true, laidLooks := .later, goes := false }
def LawS5097CFailingSinkToldSaid : Prop := Claim7.holds Ybaf.pinned (.plain (OpenSpec.ofChange lawS5097CFailingSinkSpec)) lawS5097CFailingSinkCard
/-- ITS FALSE NEIGHBOUR. Refute it at one input. -/
def LawS5097CFailingSinkToldWrongFalsely : Prop := Claim7.holds Ybaf.pinned (.plain (OpenSpec.ofChange lawS5097CFailingSinkWrong)) lawS5097CFailingSinkCard
end Rows
end Go.Proofs.YbulkdanoFmt
