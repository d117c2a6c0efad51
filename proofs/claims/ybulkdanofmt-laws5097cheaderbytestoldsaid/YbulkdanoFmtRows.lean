/-
  NARROWER THAN 'FOR EVERY INPUT', by the rows' own cells (each row's printed sentence says how): LawS5097CHeaderBytes: laid · LawS5097CFailingSink: laid.
  DERIVED. THE GIVEN ROWS OF THIS SEAT. 2 by the template 'for every input the law returns true; each argument reads behind the call as it read before'; 0 by the template 'total and deterministic' (their statements: YbulkdanoFmtTotals.lean).
  GIVEN WITH THE SEED: the statements are not yours to turn. If you find one false, say at which input.
  Laid BY PROGRAM, IN A SANDBOX (cutbox-rows.mjs): the forced cells as the released guide's own fill.sh prints them over the translation 3f72f83dae102721… (all of the seat's roots in one cut). By AI agents, Wed Nov 11 2026. No macro, syntax, notation, axiom, sorry.
-/
import Derived.Test.YbulkdanoFmtChecked
import GoSem.Claim
import GoSem.ClaimJoined
import GoSem.ClaimMapViews
import Derived.JoinedTies
import Derived.KernelRfl
namespace Go.Proofs.YbulkdanoFmt
/- THE CELL 'sum', in the pinned program and in every row, IS THE sha256 OF THE DUMP (.gsa) THAT YbulkdanoFmtProg.lean LOADS. Nothing in Lean hashes anything: it is a label: what it is worth is what the hold of that sum in a sandbox is worth. -/
noncomputable def Ybaf.pinned : Pinned := { name := "ybulkdanofmt", sum := "3f72f83dae1027213c00d350af2e1978c4edd97646e4bda2a1ab3d668d9ad8aa", checked := Ybaf.checked }
namespace Rows
def none {H : Type} : Left H := { results := [], args := [] }

/- WHAT THE LISTED PACKAGE-LEVEL VARIABLES READ AS WHEN THE CALL BEGINS. Each datum BY PROGRAM (the guide's laid-datum.mjs) off the statement by which the dump's own 'gosem.cut.vars' lays the variable. In a bare row this is a premise. The card (YbulkdanoFmtCards.lean) ties it to the program's text. -/
def laid_io_ErrShortWrite {H : Type} : DataW H := .iface "*errors.errorString" (.ptr (.agg [.lit (.string [115, 104, 111, 114, 116, 32, 119, 114, 105, 116, 101])]))

/-- 'pcap.LawS5097CHeaderBytes': WHATEVER THE INPUT: true; the input reads as it did. -/
def lawS5097CHeaderBytesSpec : ChangeSpec := { name := "lawS5097CHeaderBytes", fn := fun _ => fun
  | [d1, d2, d3, d4, d5, d6, d7, d8] => { results := [.lit (.bool true)], args := [d1, d2, d3, d4, d5, d6, d7, d8] }
  | _ => none }
def lawS5097CHeaderBytesRow : OpenClaim := { program := "ybulkdanofmt", sum := "3f72f83dae1027213c00d350af2e1978c4edd97646e4bda2a1ab3d668d9ad8aa", func := "example.com/sealwire/sealwire/internal/pcap.LawS5097CHeaderBytes", spec := "lawS5097CHeaderBytes", stops := ["fmt.errorf"], unfollowed := true, recurses := true, named := ["encoding/binary.BigEndian", "encoding/binary.LittleEndian", "io.ErrShortWrite"], apart := false, laid := [("io.ErrShortWrite", laid_io_ErrShortWrite)] }
/-- NO THEOREM (fmt's text is open here; it may be false): for the released tool's asking of the row's closed facts alone. THE STATEMENT IS 'LawS5097CHeaderBytesToldSaid' (YbulkdanoFmtCards.lean). -/
def LawS5097CHeaderBytesFormAsk : Prop := lawS5097CHeaderBytesRow.holds Ybaf.pinned (OpenSpec.ofChange lawS5097CHeaderBytesSpec)

/-- ITS FALSE NEIGHBOUR: 'it returns false'. Refute it at one input. -/
def lawS5097CHeaderBytesWrong : ChangeSpec := { name := "lawS5097CHeaderBytes", fn := fun _ => fun
  | [d1, d2, d3, d4, d5, d6, d7, d8] => { results := [.lit (.bool false)], args := [d1, d2, d3, d4, d5, d6, d7, d8] }
  | _ => none }
def LawS5097CHeaderBytesWrongFormAsk : Prop := lawS5097CHeaderBytesRow.holds Ybaf.pinned (OpenSpec.ofChange lawS5097CHeaderBytesWrong)

/-- 'pcap.LawS5097CFailingSink': WHATEVER THE INPUT: true; the input reads as it did. -/
def lawS5097CFailingSinkSpec : ChangeSpec := { name := "lawS5097CFailingSink", fn := fun _ => fun
  | [d1, d2, d3, d4] => { results := [.lit (.bool true)], args := [d1, d2, d3, d4] }
  | _ => none }
def lawS5097CFailingSinkRow : OpenClaim := { program := "ybulkdanofmt", sum := "3f72f83dae1027213c00d350af2e1978c4edd97646e4bda2a1ab3d668d9ad8aa", func := "example.com/sealwire/sealwire/internal/pcap.LawS5097CFailingSink", spec := "lawS5097CFailingSink", stops := ["fmt.errorf"], inPlace := ["internal/reflectlite.TypeOf"], unfollowed := true, recurses := true, named := ["encoding/binary.BigEndian", "encoding/binary.LittleEndian", "io.ErrShortWrite"], apart := false, laid := [("io.ErrShortWrite", laid_io_ErrShortWrite)] }
/-- NO THEOREM (fmt's text is open here; it may be false): for the released tool's asking of the row's closed facts alone. THE STATEMENT IS 'LawS5097CFailingSinkToldSaid' (YbulkdanoFmtCards.lean). -/
def LawS5097CFailingSinkFormAsk : Prop := lawS5097CFailingSinkRow.holds Ybaf.pinned (OpenSpec.ofChange lawS5097CFailingSinkSpec)

/-- ITS FALSE NEIGHBOUR: 'it returns false'. Refute it at one input. -/
def lawS5097CFailingSinkWrong : ChangeSpec := { name := "lawS5097CFailingSink", fn := fun _ => fun
  | [d1, d2, d3, d4] => { results := [.lit (.bool false)], args := [d1, d2, d3, d4] }
  | _ => none }
def LawS5097CFailingSinkWrongFormAsk : Prop := lawS5097CFailingSinkRow.holds Ybaf.pinned (OpenSpec.ofChange lawS5097CFailingSinkWrong)

end Rows
end Go.Proofs.YbulkdanoFmt
