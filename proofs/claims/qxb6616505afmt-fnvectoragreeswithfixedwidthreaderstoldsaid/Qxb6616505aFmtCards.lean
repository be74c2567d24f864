/-
  DERIVED. GIVEN WITH THE SEED: THE CARDS: each row of Qxb6616505aFmtRows.lean that lists a variable, with what it lists TIED to the program's text (the seventh form; the later family's looks); each row that meets fmt, with fmt's text TOLD by the authors' own Lean function (tested against real Go, not proved from fmt's source: count such statements apart). THE CARD IS WHAT COUNTS. Prove the row's statement (the work); the ties are given (Qxb6616505aFmtTie.lean); close each card by the builder's one call (the guide's Derived/Test/ToyasCard.lean, 'card_holds'). Laid BY PROGRAM, IN A SANDBOX (cutbox-door.mjs). By AI agents, Wed Nov 11 2026. No macro, syntax, notation, axiom, sorry.
-/
import Derived.Test.Qxb6616505aFmtRows
import GoSem.ClaimSeven
namespace Go.Proofs.Qxb6616505aFmt
namespace Rows

/-- THE TOLD CARD OF 'zzlaws_internal_octets_b1.FnUint8ReadsBackEveryOctet'. -/
def fnUint8ReadsBackEveryOctetCard : Claim7 := { stood := { row := fnUint8ReadsBackEveryOctetRow, standIns := [], harness := (true, "b8dd2b9197ce6320a938ba0af611b5bb805ad19793f302314ecd56899dcc450f"), looks := false }, told := true, goes := false }
def FnUint8ReadsBackEveryOctetToldSaid : Prop := Claim7.holds Tryf.pinned (.plain (OpenSpec.ofChange fnUint8ReadsBackEveryOctetSpec)) fnUint8ReadsBackEveryOctetCard
/-- ITS FALSE NEIGHBOUR. Refute it at one input. -/
def FnUint8ReadsBackEveryOctetToldWrongFalsely : Prop := Claim7.holds Tryf.pinned (.plain (OpenSpec.ofChange fnUint8ReadsBackEveryOctetWrong)) fnUint8ReadsBackEveryOctetCard

/-- THE TOLD CARD OF 'zzlaws_internal_octets_b1.FnVectorIsTheWindowItsFieldEncodes'. -/
def fnVectorIsTheWindowItsFieldEncodesCard : Claim7 := { stood := { row := fnVectorIsTheWindowItsFieldEncodesRow, standIns := [], harness := (true, "b8dd2b9197ce6320a938ba0af611b5bb805ad19793f302314ecd56899dcc450f"), looks := false }, told := true, goes := false }
def FnVectorIsTheWindowItsFieldEncodesToldSaid : Prop := Claim7.holds Tryf.pinned (.plain (OpenSpec.ofChange fnVectorIsTheWindowItsFieldEncodesSpec)) fnVectorIsTheWindowItsFieldEncodesCard
/-- ITS FALSE NEIGHBOUR. Refute it at one input. -/
def FnVectorIsTheWindowItsFieldEncodesToldWrongFalsely : Prop := Claim7.holds Tryf.pinned (.plain (OpenSpec.ofChange fnVectorIsTheWindowItsFieldEncodesWrong)) fnVectorIsTheWindowItsFieldEncodesCard

/-- THE TOLD CARD OF 'zzlaws_internal_octets_b1.FnLenReadsTheRest'. -/
def fnLenReadsTheRestCard : Claim7 := { stood := { row := fnLenReadsTheRestRow, standIns := [], harness := (true, "b8dd2b9197ce6320a938ba0af611b5bb805ad19793f302314ecd56899dcc450f"), looks := false }, told := true, goes := false }
def FnLenReadsTheRestToldSaid : Prop := Claim7.holds Tryf.pinned (.plain (OpenSpec.ofChange fnLenReadsTheRestSpec)) fnLenReadsTheRestCard
/-- ITS FALSE NEIGHBOUR. Refute it at one input. -/
def FnLenReadsTheRestToldWrongFalsely : Prop := Claim7.holds Tryf.pinned (.plain (OpenSpec.ofChange fnLenReadsTheRestWrong)) fnLenReadsTheRestCard

/-- THE TOLD CARD OF 'zzlaws_internal_octets_b1.FnDoneClosesTheReader'. -/
def fnDoneClosesTheReaderCard : Claim7 := { stood := { row := fnDoneClosesTheReaderRow, standIns := [], harness := (true, "b8dd2b9197ce6320a938ba0af611b5bb805ad19793f302314ecd56899dcc450f"), looks := false }, told := true, goes := false }
def FnDoneClosesTheReaderToldSaid : Prop := Claim7.holds Tryf.pinned (.plain (OpenSpec.ofChange fnDoneClosesTheReaderSpec)) fnDoneClosesTheReaderCard
/-- ITS FALSE NEIGHBOUR. Refute it at one input. -/
def FnDoneClosesTheReaderToldWrongFalsely : Prop := Claim7.holds Tryf.pinned (.plain (OpenSpec.ofChange fnDoneClosesTheReaderWrong)) fnDoneClosesTheReaderCard

/-- THE TOLD CARD OF 'zzlaws_internal_octets_b1.FnUint8PairIsUint16'. -/
def fnUint8PairIsUint16Card : Claim7 := { stood := { row := fnUint8PairIsUint16Row, standIns := [], harness := (true, "b8dd2b9197ce6320a938ba0af611b5bb805ad19793f302314ecd56899dcc450f"), looks := false }, told := true, goes := false }
def FnUint8PairIsUint16ToldSaid : Prop := Claim7.holds Tryf.pinned (.plain (OpenSpec.ofChange fnUint8PairIsUint16Spec)) fnUint8PairIsUint16Card
/-- ITS FALSE NEIGHBOUR. Refute it at one input. -/
def FnUint8PairIsUint16ToldWrongFalsely : Prop := Claim7.holds Tryf.pinned (.plain (OpenSpec.ofChange fnUint8PairIsUint16Wrong)) fnUint8PairIsUint16Card

/-- THE TOLD CARD OF 'zzlaws_internal_octets_b1.FnVectorAgreesWithFixedWidthReaders'. -/
def fnVectorAgreesWithFixedWidthReadersCard : Claim7 := { stood := { row := fnVectorAgreesWithFixedWidthReadersRow, standIns := [], harness := (true, "b8dd2b9197ce6320a938ba0af611b5bb805ad19793f302314ecd56899dcc450f"), looks := false }, told := true, goes := false }
def FnVectorAgreesWithFixedWidthReadersToldSaid : Prop := Claim7.holds Tryf.pinned (.plain (OpenSpec.ofChange fnVectorAgreesWithFixedWidthReadersSpec)) fnVectorAgreesWithFixedWidthReadersCard
/-- ITS FALSE NEIGHBOUR. Refute it at one input. -/
def FnVectorAgreesWithFixedWidthReadersToldWrongFalsely : Prop := Claim7.holds Tryf.pinned (.plain (OpenSpec.ofChange fnVectorAgreesWithFixedWidthReadersWrong)) fnVectorAgreesWithFixedWidthReadersCard
end Rows
end Go.Proofs.Qxb6616505aFmt
