/-
  NARROWER THAN 'FOR EVERY INPUT', by the rows' own cells (each row's printed sentence says how): LawS3996AShape: laid · LawS3996AEncode: laid · LawS3996CSkipsToTrailer: laid · LawS3996CRefuses: laid.
  DERIVED. THE GIVEN ROWS OF THIS SEAT. 4 by the template 'for every input the law returns true; each argument reads behind the call as it read before'; 0 by the template 'total and deterministic' (their statements: YbulkcdssFmtTotals.lean).
  GIVEN WITH THE SEED: the statements are not yours to turn. If you find one false, say at which input.
  Laid BY PROGRAM, IN A SANDBOX (cutbox-rows.mjs): the forced cells as the released guide's own fill.sh prints them over the translation c5d637e7509e4798… (all of the seat's roots in one cut). By AI agents, Wed Nov 11 2026. No macro, syntax, notation, axiom, sorry.
-/
import Derived.Test.YbulkcdssFmtChecked
import GoSem.Claim
import GoSem.ClaimJoined
import GoSem.ClaimMapViews
import Derived.JoinedTies
import Derived.KernelRfl
namespace Go.Proofs.YbulkcdssFmt
/- THE CELL 'sum', in the pinned program and in every row, IS THE sha256 OF THE DUMP (.gsa) THAT YbulkcdssFmtProg.lean LOADS. Nothing in Lean hashes anything: it is a label: what it is worth is what the hold of that sum in a sandbox is worth. -/
noncomputable def Ybaf.pinned : Pinned := { name := "ybulkcdssfmt", sum := "c5d637e7509e47988a07b0275c4b043e411e4afdf7903a90586280a7a0d39376", checked := Ybaf.checked }
namespace Rows
def none {H : Type} : Left H := { results := [], args := [] }

/- WHAT THE LISTED PACKAGE-LEVEL VARIABLES READ AS WHEN THE CALL BEGINS. Each datum BY PROGRAM (the guide's laid-datum.mjs) off the statement by which the dump's own 'gosem.cut.vars' lays the variable. In a bare row this is a premise. The card (YbulkcdssFmtCards.lean) ties it to the program's text. -/
def laid_encoding_hex_ErrLength {H : Type} : DataW H := .iface "*errors.errorString" (.ptr (.agg [.lit (.string [101, 110, 99, 111, 100, 105, 110, 103, 47, 104, 101, 120, 58, 32, 111, 100, 100, 32, 108, 101, 110, 103, 116, 104, 32, 104, 101, 120, 32, 115, 116, 114, 105, 110, 103])]))
def laid_io_ErrShortWrite {H : Type} : DataW H := .iface "*errors.errorString" (.ptr (.agg [.lit (.string [115, 104, 111, 114, 116, 32, 119, 114, 105, 116, 101])]))
def laid_io_errInvalidWrite {H : Type} : DataW H := .iface "*errors.errorString" (.ptr (.agg [.lit (.string [105, 110, 118, 97, 108, 105, 100, 32, 119, 114, 105, 116, 101, 32, 114, 101, 115, 117, 108, 116])]))
def laid_io_ErrShortBuffer {H : Type} : DataW H := .iface "*errors.errorString" (.ptr (.agg [.lit (.string [115, 104, 111, 114, 116, 32, 98, 117, 102, 102, 101, 114])]))
def laid_io_EOF {H : Type} : DataW H := .iface "*errors.errorString" (.ptr (.agg [.lit (.string [69, 79, 70])]))
def laid_io_ErrUnexpectedEOF {H : Type} : DataW H := .iface "*errors.errorString" (.ptr (.agg [.lit (.string [117, 110, 101, 120, 112, 101, 99, 116, 101, 100, 32, 69, 79, 70])]))
def laid_io_Discard {H : Type} : DataW H := .iface "io.discard" (.agg [])

/-- 'ansi41.LawS3996AShape': WHATEVER THE INPUT: true; the input reads as it did. -/
def lawS3996AShapeSpec : ChangeSpec := { name := "lawS3996AShape", fn := fun _ => fun
  | [d1, d2, d3] => { results := [.lit (.bool true)], args := [d1, d2, d3] }
  | _ => none }
def lawS3996AShapeRow : OpenClaim := { program := "ybulkcdssfmt", sum := "c5d637e7509e47988a07b0275c4b043e411e4afdf7903a90586280a7a0d39376", func := "example.com/roamwire/roamwire/pkg/ansi41.LawS3996AShape", spec := "lawS3996AShape", stops := ["fmt.errorf, its operands' methods called", "fmt.Sprintf"], inPlace := ["fmt.errorf"], unfollowed := true, recurses := true, named := ["encoding/hex.ErrLength"], apart := false, laid := [("encoding/hex.ErrLength", laid_encoding_hex_ErrLength)] }
/-- NO THEOREM (fmt's text is open here; it may be false): for the released tool's asking of the row's closed facts alone. THE STATEMENT IS 'LawS3996AShapeToldSaid' (YbulkcdssFmtCards.lean). -/
def LawS3996AShapeFormAsk : Prop := lawS3996AShapeRow.holds Ybaf.pinned (OpenSpec.ofChange lawS3996AShapeSpec)

/-- ITS FALSE NEIGHBOUR: 'it returns false'. Refute it at one input. -/
def lawS3996AShapeWrong : ChangeSpec := { name := "lawS3996AShape", fn := fun _ => fun
  | [d1, d2, d3] => { results := [.lit (.bool false)], args := [d1, d2, d3] }
  | _ => none }
def LawS3996AShapeWrongFormAsk : Prop := lawS3996AShapeRow.holds Ybaf.pinned (OpenSpec.ofChange lawS3996AShapeWrong)

/-- 'ansi41.LawS3996AEncode': WHATEVER THE INPUT: true; the input reads as it did. -/
def lawS3996AEncodeSpec : ChangeSpec := { name := "lawS3996AEncode", fn := fun _ => fun
  | [d1, d2, d3, d4, d5] => { results := [.lit (.bool true)], args := [d1, d2, d3, d4, d5] }
  | _ => none }
def lawS3996AEncodeRow : OpenClaim := { program := "ybulkcdssfmt", sum := "c5d637e7509e47988a07b0275c4b043e411e4afdf7903a90586280a7a0d39376", func := "example.com/roamwire/roamwire/pkg/ansi41.LawS3996AEncode", spec := "lawS3996AEncode", stops := ["fmt.errorf, its operands' methods called", "fmt.Sprintf"], inPlace := ["fmt.errorf"], unfollowed := true, recurses := true, named := ["encoding/hex.ErrLength"], apart := false, laid := [("encoding/hex.ErrLength", laid_encoding_hex_ErrLength)] }
/-- NO THEOREM (fmt's text is open here; it may be false): for the released tool's asking of the row's closed facts alone. THE STATEMENT IS 'LawS3996AEncodeToldSaid' (YbulkcdssFmtCards.lean). -/
def LawS3996AEncodeFormAsk : Prop := lawS3996AEncodeRow.holds Ybaf.pinned (OpenSpec.ofChange lawS3996AEncodeSpec)

/-- ITS FALSE NEIGHBOUR: 'it returns false'. Refute it at one input. -/
def lawS3996AEncodeWrong : ChangeSpec := { name := "lawS3996AEncode", fn := fun _ => fun
  | [d1, d2, d3, d4, d5] => { results := [.lit (.bool false)], args := [d1, d2, d3, d4, d5] }
  | _ => none }
def LawS3996AEncodeWrongFormAsk : Prop := lawS3996AEncodeRow.holds Ybaf.pinned (OpenSpec.ofChange lawS3996AEncodeWrong)

/-- 'pcap.LawS3996CSkipsToTrailer': WHATEVER THE INPUT: true; the input reads as it did. -/
def lawS3996CSkipsToTrailerSpec : ChangeSpec := { name := "lawS3996CSkipsToTrailer", fn := fun _ => fun
  | [d1, d2, d3, d4] => { results := [.lit (.bool true)], args := [d1, d2, d3, d4] }
  | _ => none }
def lawS3996CSkipsToTrailerRow : OpenClaim := { program := "ybulkcdssfmt", sum := "c5d637e7509e47988a07b0275c4b043e411e4afdf7903a90586280a7a0d39376", func := "example.com/roamwire/roamwire/internal/pcap.LawS3996CSkipsToTrailer", spec := "lawS3996CSkipsToTrailer", stops := ["fmt.errorf, its operands' methods called", "fmt.Sprintf"], inPlace := ["fmt.errorf"], unfollowed := true, recurses := true, named := ["encoding/binary.BigEndian", "encoding/binary.LittleEndian", "io.Discard", "io.EOF", "io.errInvalidWrite", "io.ErrShortWrite", "io.ErrUnexpectedEOF", "io.ErrShortBuffer"], apart := false, laid := [("io.ErrShortWrite", laid_io_ErrShortWrite), ("io.errInvalidWrite", laid_io_errInvalidWrite), ("io.ErrShortBuffer", laid_io_ErrShortBuffer), ("io.EOF", laid_io_EOF), ("io.ErrUnexpectedEOF", laid_io_ErrUnexpectedEOF), ("io.Discard", laid_io_Discard)] }
/-- NO THEOREM (fmt's text is open here; it may be false): for the released tool's asking of the row's closed facts alone. THE STATEMENT IS 'LawS3996CSkipsToTrailerToldSaid' (YbulkcdssFmtCards.lean). -/
def LawS3996CSkipsToTrailerFormAsk : Prop := lawS3996CSkipsToTrailerRow.holds Ybaf.pinned (OpenSpec.ofChange lawS3996CSkipsToTrailerSpec)

/-- ITS FALSE NEIGHBOUR: 'it returns false'. Refute it at one input. -/
def lawS3996CSkipsToTrailerWrong : ChangeSpec := { name := "lawS3996CSkipsToTrailer", fn := fun _ => fun
  | [d1, d2, d3, d4] => { results := [.lit (.bool false)], args := [d1, d2, d3, d4] }
  | _ => none }
def LawS3996CSkipsToTrailerWrongFormAsk : Prop := lawS3996CSkipsToTrailerRow.holds Ybaf.pinned (OpenSpec.ofChange lawS3996CSkipsToTrailerWrong)

/-- 'pcap.LawS3996CRefuses': WHATEVER THE INPUT: true; the input reads as it did. -/
def lawS3996CRefusesSpec : ChangeSpec := { name := "lawS3996CRefuses", fn := fun _ => fun
  | [d1, d2, d3, d4, d5] => { results := [.lit (.bool true)], args := [d1, d2, d3, d4, d5] }
  | _ => none }
def lawS3996CRefusesRow : OpenClaim := { program := "ybulkcdssfmt", sum := "c5d637e7509e47988a07b0275c4b043e411e4afdf7903a90586280a7a0d39376", func := "example.com/roamwire/roamwire/internal/pcap.LawS3996CRefuses", spec := "lawS3996CRefuses", stops := ["fmt.errorf, its operands' methods called", "fmt.Sprintf"], inPlace := ["fmt.errorf"], unfollowed := true, recurses := true, named := ["encoding/binary.BigEndian", "encoding/binary.LittleEndian", "io.Discard", "io.EOF", "io.errInvalidWrite", "io.ErrShortWrite", "io.ErrUnexpectedEOF", "io.ErrShortBuffer"], apart := false, laid := [("io.ErrShortWrite", laid_io_ErrShortWrite), ("io.errInvalidWrite", laid_io_errInvalidWrite), ("io.ErrShortBuffer", laid_io_ErrShortBuffer), ("io.EOF", laid_io_EOF), ("io.ErrUnexpectedEOF", laid_io_ErrUnexpectedEOF), ("io.Discard", laid_io_Discard)] }
/-- NO THEOREM (fmt's text is open here; it may be false): for the released tool's asking of the row's closed facts alone. THE STATEMENT IS 'LawS3996CRefusesToldSaid' (YbulkcdssFmtCards.lean). -/
def LawS3996CRefusesFormAsk : Prop := lawS3996CRefusesRow.holds Ybaf.pinned (OpenSpec.ofChange lawS3996CRefusesSpec)

/-- ITS FALSE NEIGHBOUR: 'it returns false'. Refute it at one input. -/
def lawS3996CRefusesWrong : ChangeSpec := { name := "lawS3996CRefuses", fn := fun _ => fun
  | [d1, d2, d3, d4, d5] => { results := [.lit (.bool false)], args := [d1, d2, d3, d4, d5] }
  | _ => none }
def LawS3996CRefusesWrongFormAsk : Prop := lawS3996CRefusesRow.holds Ybaf.pinned (OpenSpec.ofChange lawS3996CRefusesWrong)

end Rows
end Go.Proofs.YbulkcdssFmt
