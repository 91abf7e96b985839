/-
  NARROWER THAN 'FOR EVERY INPUT', by the rows' own cells (each row's printed sentence says how): LawS4404ARecords: ifaces, laid · LawS4404ARaw: ifaces, laid.
  DERIVED. THE GIVEN ROWS OF THIS SEAT. 2 by the template 'for every input the law returns true; each argument reads behind the call as it read before'; 0 by the template 'total and deterministic' (their statements: YbulkcmekFmtTotals.lean).
  GIVEN WITH THE SEED: the statements are not yours to turn. If you find one false, say at which input.
  Laid BY PROGRAM, IN A SANDBOX (cutbox-rows.mjs): the forced cells as the released guide's own fill.sh prints them over the translation 3ce476dfda3b0419… (all of the seat's roots in one cut). By AI agents, Wed Nov 11 2026. No macro, syntax, notation, axiom, sorry.
-/
import Derived.Test.YbulkcmekFmtChecked
import GoSem.Claim
import GoSem.ClaimJoined
import GoSem.ClaimMapViews
import Derived.JoinedTies
import Derived.KernelRfl
namespace Go.Proofs.YbulkcmekFmt
/- THE CELL 'sum', in the pinned program and in every row, IS THE sha256 OF THE DUMP (.gsa) THAT YbulkcmekFmtProg.lean LOADS. Nothing in Lean hashes anything: it is a label: what it is worth is what the hold of that sum in a sandbox is worth. -/
noncomputable def Ybaf.pinned : Pinned := { name := "ybulkcmekfmt", sum := "3ce476dfda3b04199d240981b8d4c47cb01afe802bc5f9e0f1fd2db2e7b6a752", checked := Ybaf.checked }
namespace Rows
def none {H : Type} : Left H := { results := [], args := [] }

/- WHAT THE LISTED PACKAGE-LEVEL VARIABLES READ AS WHEN THE CALL BEGINS. Each datum BY PROGRAM (the guide's laid-datum.mjs) off the statement by which the dump's own 'gosem.cut.vars' lays the variable. In a bare row this is a premise. The card (YbulkcmekFmtCards.lean) ties it to the program's text. -/
def laid_io_ErrShortBuffer {H : Type} : DataW H := .iface "*errors.errorString" (.ptr (.agg [.lit (.string [115, 104, 111, 114, 116, 32, 98, 117, 102, 102, 101, 114])]))
def laid_io_EOF {H : Type} : DataW H := .iface "*errors.errorString" (.ptr (.agg [.lit (.string [69, 79, 70])]))
def laid_io_ErrUnexpectedEOF {H : Type} : DataW H := .iface "*errors.errorString" (.ptr (.agg [.lit (.string [117, 110, 101, 120, 112, 101, 99, 116, 101, 100, 32, 69, 79, 70])]))
def laid_example_com_flowtag_flowtag_internal_pcap_ErrTruncated {H : Type} : DataW H := .iface "*errors.errorString" (.ptr (.agg [.lit (.string [99, 97, 112, 116, 117, 114, 101, 32, 101, 110, 100, 115, 32, 105, 110, 115, 105, 100, 101, 32, 97, 32, 114, 101, 99, 111, 114, 100])]))

/-- 'pcap.LawS4404ARecords': WHATEVER THE INPUT: true; the input reads as it did. -/
def lawS4404ARecordsSpec : ChangeSpec := { name := "lawS4404ARecords", vars := ["example.com/flowtag/flowtag/internal/pcap.ErrTruncated"], fn := fun _ => fun
  | [d1, d2, d3, g1] => { results := [.lit (.bool true)], args := [d1, d2, d3], vars := [g1] }
  | _ => none }
def lawS4404ARecordsRow : OpenClaim := { program := "ybulkcmekfmt", sum := "3ce476dfda3b04199d240981b8d4c47cb01afe802bc5f9e0f1fd2db2e7b6a752", func := "example.com/flowtag/flowtag/internal/pcap.LawS4404ARecords", spec := "lawS4404ARecords", stops := ["fmt.errorf"], inPlace := ["fmt.errorf", "internal/reflectlite.TypeOf"], unfollowed := true, recurses := true, named := ["io.EOF", "example.com/flowtag/flowtag/internal/pcap.ErrTruncated", "encoding/binary.LittleEndian", "encoding/binary.BigEndian", "io.ErrUnexpectedEOF", "io.ErrShortBuffer"], ifaces := true, apart := false, laid := [("io.ErrShortBuffer", laid_io_ErrShortBuffer), ("io.EOF", laid_io_EOF), ("io.ErrUnexpectedEOF", laid_io_ErrUnexpectedEOF), ("example.com/flowtag/flowtag/internal/pcap.ErrTruncated", laid_example_com_flowtag_flowtag_internal_pcap_ErrTruncated)] }
/-- NO THEOREM (fmt's text is open here; it may be false): for the released tool's asking of the row's closed facts alone. THE STATEMENT IS 'LawS4404ARecordsToldSaid' (YbulkcmekFmtCards.lean). -/
def LawS4404ARecordsFormAsk : Prop := lawS4404ARecordsRow.holds Ybaf.pinned (OpenSpec.ofChange lawS4404ARecordsSpec)

/-- ITS FALSE NEIGHBOUR: 'it returns false'. Refute it at one input. -/
def lawS4404ARecordsWrong : ChangeSpec := { name := "lawS4404ARecords", vars := ["example.com/flowtag/flowtag/internal/pcap.ErrTruncated"], fn := fun _ => fun
  | [d1, d2, d3, g1] => { results := [.lit (.bool false)], args := [d1, d2, d3], vars := [g1] }
  | _ => none }
def LawS4404ARecordsWrongFormAsk : Prop := lawS4404ARecordsRow.holds Ybaf.pinned (OpenSpec.ofChange lawS4404ARecordsWrong)

/-- 'pcap.LawS4404ARaw': WHATEVER THE INPUT: true; the input reads as it did. -/
def lawS4404ARawSpec : ChangeSpec := { name := "lawS4404ARaw", vars := ["example.com/flowtag/flowtag/internal/pcap.ErrTruncated"], fn := fun _ => fun
  | [d1, d2, g1] => { results := [.lit (.bool true)], args := [d1, d2], vars := [g1] }
  | _ => none }
def lawS4404ARawRow : OpenClaim := { program := "ybulkcmekfmt", sum := "3ce476dfda3b04199d240981b8d4c47cb01afe802bc5f9e0f1fd2db2e7b6a752", func := "example.com/flowtag/flowtag/internal/pcap.LawS4404ARaw", spec := "lawS4404ARaw", stops := ["fmt.errorf"], inPlace := ["fmt.errorf", "internal/reflectlite.TypeOf"], unfollowed := true, recurses := true, named := ["io.EOF", "example.com/flowtag/flowtag/internal/pcap.ErrTruncated", "encoding/binary.LittleEndian", "encoding/binary.BigEndian", "io.ErrUnexpectedEOF", "io.ErrShortBuffer"], ifaces := true, apart := false, laid := [("io.ErrShortBuffer", laid_io_ErrShortBuffer), ("io.EOF", laid_io_EOF), ("io.ErrUnexpectedEOF", laid_io_ErrUnexpectedEOF), ("example.com/flowtag/flowtag/internal/pcap.ErrTruncated", laid_example_com_flowtag_flowtag_internal_pcap_ErrTruncated)] }
/-- NO THEOREM (fmt's text is open here; it may be false): for the released tool's asking of the row's closed facts alone. THE STATEMENT IS 'LawS4404ARawToldSaid' (YbulkcmekFmtCards.lean). -/
def LawS4404ARawFormAsk : Prop := lawS4404ARawRow.holds Ybaf.pinned (OpenSpec.ofChange lawS4404ARawSpec)

/-- ITS FALSE NEIGHBOUR: 'it returns false'. Refute it at one input. -/
def lawS4404ARawWrong : ChangeSpec := { name := "lawS4404ARaw", vars := ["example.com/flowtag/flowtag/internal/pcap.ErrTruncated"], fn := fun _ => fun
  | [d1, d2, g1] => { results := [.lit (.bool false)], args := [d1, d2], vars := [g1] }
  | _ => none }
def LawS4404ARawWrongFormAsk : Prop := lawS4404ARawRow.holds Ybaf.pinned (OpenSpec.ofChange lawS4404ARawWrong)

end Rows
end Go.Proofs.YbulkcmekFmt
