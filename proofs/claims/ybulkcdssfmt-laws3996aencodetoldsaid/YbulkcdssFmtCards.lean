/-
  DERIVED. GIVEN WITH THE SEED: THE CARDS: each row of YbulkcdssFmtRows.lean that lists a variable, with what it lists TIED to the program's text (the seventh form; the later family's looks); each row that meets fmt, with fmt's text TOLD by the authors' own Lean function (tested against real Go, not proved from fmt's source: count such statements apart). THE CARD IS WHAT COUNTS. Prove the row's statement (the work); the ties are given (YbulkcdssFmtTie.lean); close each card by the builder's one call (the guide's Derived/Test/ToyasCard.lean, 'card_holds'). Laid BY PROGRAM, IN A SANDBOX (cutbox-door.mjs). By AI agents, Wed Nov 11 2026. No macro, syntax, notation, axiom, sorry.
-/
import Derived.Test.YbulkcdssFmtRows
import GoSem.ClaimSeven
namespace Go.Proofs.YbulkcdssFmt
namespace Rows

/-- THE TOLD AND TIED CARD OF 'ansi41.LawS3996AShape'. -/
def lawS3996AShapeCard : Claim7 := { stood := { row := lawS3996AShapeRow, standIns := [], harness := (true, "8a5ec3e1be894eed43b78b2c78c1d39ba62d242a829878aab4d7b0b2a28064fe"), looks := true }, told := true, laidByText := true, laidKinds := [.sentinel], laidTests := true, laidLooks := .later, goes := false }
def LawS3996AShapeToldSaid : Prop := Claim7.holds Ybaf.pinned (.plain (OpenSpec.ofChange lawS3996AShapeSpec)) lawS3996AShapeCard
/-- ITS FALSE NEIGHBOUR. Refute it at one input. -/
def LawS3996AShapeToldWrongFalsely : Prop := Claim7.holds Ybaf.pinned (.plain (OpenSpec.ofChange lawS3996AShapeWrong)) lawS3996AShapeCard

/-- THE TOLD AND TIED CARD OF 'ansi41.LawS3996AEncode'. -/
def lawS3996AEncodeCard : Claim7 := { stood := { row := lawS3996AEncodeRow, standIns := [], harness := (true, "8a5ec3e1be894eed43b78b2c78c1d39ba62d242a829878aab4d7b0b2a28064fe"), looks := true }, told := true, laidByText := true, laidKinds := [.sentinel], laidTests := true, laidLooks := .later, goes := false }
def LawS3996AEncodeToldSaid : Prop := Claim7.holds Ybaf.pinned (.plain (OpenSpec.ofChange lawS3996AEncodeSpec)) lawS3996AEncodeCard
/-- ITS FALSE NEIGHBOUR. Refute it at one input. -/
def LawS3996AEncodeToldWrongFalsely : Prop := Claim7.holds Ybaf.pinned (.plain (OpenSpec.ofChange lawS3996AEncodeWrong)) lawS3996AEncodeCard

/-- THE TOLD AND TIED CARD OF 'pcap.LawS3996CSkipsToTrailer'. -/
def lawS3996CSkipsToTrailerCard : Claim7 := { stood := { row := lawS3996CSkipsToTrailerRow, standIns := [], harness := (true, "8a5ec3e1be894eed43b78b2c78c1d39ba62d242a829878aab4d7b0b2a28064fe"), looks := true }, told := true, laidByText := true, laidKinds := [.sentinel, .sentinel, .sentinel, .sentinel, .sentinel, .wider], laidTests := true, laidLooks := .later, goes := false }
def LawS3996CSkipsToTrailerToldSaid : Prop := Claim7.holds Ybaf.pinned (.plain (OpenSpec.ofChange lawS3996CSkipsToTrailerSpec)) lawS3996CSkipsToTrailerCard
/-- ITS FALSE NEIGHBOUR. Refute it at one input. -/
def LawS3996CSkipsToTrailerToldWrongFalsely : Prop := Claim7.holds Ybaf.pinned (.plain (OpenSpec.ofChange lawS3996CSkipsToTrailerWrong)) lawS3996CSkipsToTrailerCard

/-- THE TOLD AND TIED CARD OF 'pcap.LawS3996CRefuses'. -/
def lawS3996CRefusesCard : Claim7 := { stood := { row := lawS3996CRefusesRow, standIns := [], harness := (true, "8a5ec3e1be894eed43b78b2c78c1d39ba62d242a829878aab4d7b0b2a28064fe"), looks := true }, told := true, laidByText := true, laidKinds := [.sentinel, .sentinel, .sentinel, .sentinel, .sentinel, .wider], laidTests := true, laidLooks := .later, goes := false }
def LawS3996CRefusesToldSaid : Prop := Claim7.holds Ybaf.pinned (.plain (OpenSpec.ofChange lawS3996CRefusesSpec)) lawS3996CRefusesCard
/-- ITS FALSE NEIGHBOUR. Refute it at one input. -/
def LawS3996CRefusesToldWrongFalsely : Prop := Claim7.holds Ybaf.pinned (.plain (OpenSpec.ofChange lawS3996CRefusesWrong)) lawS3996CRefusesCard
end Rows
end Go.Proofs.YbulkcdssFmt
