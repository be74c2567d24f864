/-
  No cell of these rows narrows 'for every input' (looked for: loops, veiled, ifaces, maps, wideKeys, modest, calm, conditions, laid).
  DERIVED. THE GIVEN ROWS OF THIS SEAT. 6 by the template 'for every input the law returns true; each argument reads behind the call as it read before'; 0 by the template 'total and deterministic' (their statements: Qxb6616505aFmtTotals.lean).
  GIVEN WITH THE SEED: the statements are not yours to turn. If you find one false, say at which input.
  Laid BY PROGRAM, IN A SANDBOX (cutbox-rows.mjs): the forced cells as the released guide's own fill.sh prints them over the translation 1dbff3b076d48d86… (all of the seat's roots in one cut). By AI agents, Wed Nov 11 2026. No macro, syntax, notation, axiom, sorry.
-/
import Derived.Test.Qxb6616505aFmtChecked
import GoSem.Claim
import GoSem.ClaimJoined
import GoSem.ClaimMapViews
import Derived.JoinedTies
import Derived.KernelRfl
namespace Go.Proofs.Qxb6616505aFmt
/- THE CELL 'sum', in the pinned program and in every row, IS THE sha256 OF THE DUMP (.gsa) THAT Qxb6616505aFmtProg.lean LOADS. Nothing in Lean hashes anything: it is a label: what it is worth is what the hold of that sum in a sandbox is worth. -/
noncomputable def Tryf.pinned : Pinned := { name := "qxb6616505afmt", sum := "1dbff3b076d48d86145eeec28ee5764b7cc278581f79633932efab9de0fa909f", checked := Tryf.checked }
namespace Rows
def none {H : Type} : Left H := { results := [], args := [] }

/-- 'zzlaws_internal_octets_b1.FnUint8ReadsBackEveryOctet': WHATEVER THE INPUT: true; the input reads as it did. -/
def fnUint8ReadsBackEveryOctetSpec : ChangeSpec := { name := "fnUint8ReadsBackEveryOctet", fn := fun _ => fun
  | [d1, d2] => { results := [.lit (.bool true)], args := [d1, d2] }
  | _ => none }
def fnUint8ReadsBackEveryOctetRow : OpenClaim := { program := "qxb6616505afmt", sum := "1dbff3b076d48d86145eeec28ee5764b7cc278581f79633932efab9de0fa909f", func := "example.com/curvewire/curvewire/zzlaws_internal_octets_b1.FnUint8ReadsBackEveryOctet", spec := "fnUint8ReadsBackEveryOctet", stops := ["fmt.errorf"], inPlace := ["fmt.errorf"], apart := false }
/-- NO THEOREM (fmt's text is open here; it may be false): for the released tool's asking of the row's closed facts alone. THE STATEMENT IS 'FnUint8ReadsBackEveryOctetToldSaid' (Qxb6616505aFmtCards.lean). -/
def FnUint8ReadsBackEveryOctetFormAsk : Prop := fnUint8ReadsBackEveryOctetRow.holds Tryf.pinned (OpenSpec.ofChange fnUint8ReadsBackEveryOctetSpec)

/-- ITS FALSE NEIGHBOUR: 'it returns false'. Refute it at one input. -/
def fnUint8ReadsBackEveryOctetWrong : ChangeSpec := { name := "fnUint8ReadsBackEveryOctet", fn := fun _ => fun
  | [d1, d2] => { results := [.lit (.bool false)], args := [d1, d2] }
  | _ => none }
def FnUint8ReadsBackEveryOctetWrongFormAsk : Prop := fnUint8ReadsBackEveryOctetRow.holds Tryf.pinned (OpenSpec.ofChange fnUint8ReadsBackEveryOctetWrong)

/-- 'zzlaws_internal_octets_b1.FnVectorIsTheWindowItsFieldEncodes': WHATEVER THE INPUT: true; the input reads as it did. -/
def fnVectorIsTheWindowItsFieldEncodesSpec : ChangeSpec := { name := "fnVectorIsTheWindowItsFieldEncodes", fn := fun _ => fun
  | [d1, d2, d3] => { results := [.lit (.bool true)], args := [d1, d2, d3] }
  | _ => none }
def fnVectorIsTheWindowItsFieldEncodesRow : OpenClaim := { program := "qxb6616505afmt", sum := "1dbff3b076d48d86145eeec28ee5764b7cc278581f79633932efab9de0fa909f", func := "example.com/curvewire/curvewire/zzlaws_internal_octets_b1.FnVectorIsTheWindowItsFieldEncodes", spec := "fnVectorIsTheWindowItsFieldEncodes", stops := ["fmt.errorf"], inPlace := ["fmt.errorf"], apart := false }
/-- NO THEOREM (fmt's text is open here; it may be false): for the released tool's asking of the row's closed facts alone. THE STATEMENT IS 'FnVectorIsTheWindowItsFieldEncodesToldSaid' (Qxb6616505aFmtCards.lean). -/
def FnVectorIsTheWindowItsFieldEncodesFormAsk : Prop := fnVectorIsTheWindowItsFieldEncodesRow.holds Tryf.pinned (OpenSpec.ofChange fnVectorIsTheWindowItsFieldEncodesSpec)

/-- ITS FALSE NEIGHBOUR: 'it returns false'. Refute it at one input. -/
def fnVectorIsTheWindowItsFieldEncodesWrong : ChangeSpec := { name := "fnVectorIsTheWindowItsFieldEncodes", fn := fun _ => fun
  | [d1, d2, d3] => { results := [.lit (.bool false)], args := [d1, d2, d3] }
  | _ => none }
def FnVectorIsTheWindowItsFieldEncodesWrongFormAsk : Prop := fnVectorIsTheWindowItsFieldEncodesRow.holds Tryf.pinned (OpenSpec.ofChange fnVectorIsTheWindowItsFieldEncodesWrong)

/-- 'zzlaws_internal_octets_b1.FnLenReadsTheRest': WHATEVER THE INPUT: true; the input reads as it did. -/
def fnLenReadsTheRestSpec : ChangeSpec := { name := "fnLenReadsTheRest", fn := fun _ => fun
  | [d1, d2, d3] => { results := [.lit (.bool true)], args := [d1, d2, d3] }
  | _ => none }
def fnLenReadsTheRestRow : OpenClaim := { program := "qxb6616505afmt", sum := "1dbff3b076d48d86145eeec28ee5764b7cc278581f79633932efab9de0fa909f", func := "example.com/curvewire/curvewire/zzlaws_internal_octets_b1.FnLenReadsTheRest", spec := "fnLenReadsTheRest", stops := ["fmt.errorf"], inPlace := ["fmt.errorf"], apart := false }
/-- NO THEOREM (fmt's text is open here; it may be false): for the released tool's asking of the row's closed facts alone. THE STATEMENT IS 'FnLenReadsTheRestToldSaid' (Qxb6616505aFmtCards.lean). -/
def FnLenReadsTheRestFormAsk : Prop := fnLenReadsTheRestRow.holds Tryf.pinned (OpenSpec.ofChange fnLenReadsTheRestSpec)

/-- ITS FALSE NEIGHBOUR: 'it returns false'. Refute it at one input. -/
def fnLenReadsTheRestWrong : ChangeSpec := { name := "fnLenReadsTheRest", fn := fun _ => fun
  | [d1, d2, d3] => { results := [.lit (.bool false)], args := [d1, d2, d3] }
  | _ => none }
def FnLenReadsTheRestWrongFormAsk : Prop := fnLenReadsTheRestRow.holds Tryf.pinned (OpenSpec.ofChange fnLenReadsTheRestWrong)

/-- 'zzlaws_internal_octets_b1.FnDoneClosesTheReader': WHATEVER THE INPUT: true; the input reads as it did. -/
def fnDoneClosesTheReaderSpec : ChangeSpec := { name := "fnDoneClosesTheReader", fn := fun _ => fun
  | [d1, d2, d3] => { results := [.lit (.bool true)], args := [d1, d2, d3] }
  | _ => none }
def fnDoneClosesTheReaderRow : OpenClaim := { program := "qxb6616505afmt", sum := "1dbff3b076d48d86145eeec28ee5764b7cc278581f79633932efab9de0fa909f", func := "example.com/curvewire/curvewire/zzlaws_internal_octets_b1.FnDoneClosesTheReader", spec := "fnDoneClosesTheReader", stops := ["fmt.errorf"], inPlace := ["fmt.errorf"], apart := false }
/-- NO THEOREM (fmt's text is open here; it may be false): for the released tool's asking of the row's closed facts alone. THE STATEMENT IS 'FnDoneClosesTheReaderToldSaid' (Qxb6616505aFmtCards.lean). -/
def FnDoneClosesTheReaderFormAsk : Prop := fnDoneClosesTheReaderRow.holds Tryf.pinned (OpenSpec.ofChange fnDoneClosesTheReaderSpec)

/-- ITS FALSE NEIGHBOUR: 'it returns false'. Refute it at one input. -/
def fnDoneClosesTheReaderWrong : ChangeSpec := { name := "fnDoneClosesTheReader", fn := fun _ => fun
  | [d1, d2, d3] => { results := [.lit (.bool false)], args := [d1, d2, d3] }
  | _ => none }
def FnDoneClosesTheReaderWrongFormAsk : Prop := fnDoneClosesTheReaderRow.holds Tryf.pinned (OpenSpec.ofChange fnDoneClosesTheReaderWrong)

/-- 'zzlaws_internal_octets_b1.FnUint8PairIsUint16': WHATEVER THE INPUT: true; the input reads as it did. -/
def fnUint8PairIsUint16Spec : ChangeSpec := { name := "fnUint8PairIsUint16", fn := fun _ => fun
  | [d1, d2] => { results := [.lit (.bool true)], args := [d1, d2] }
  | _ => none }
def fnUint8PairIsUint16Row : OpenClaim := { program := "qxb6616505afmt", sum := "1dbff3b076d48d86145eeec28ee5764b7cc278581f79633932efab9de0fa909f", func := "example.com/curvewire/curvewire/zzlaws_internal_octets_b1.FnUint8PairIsUint16", spec := "fnUint8PairIsUint16", stops := ["fmt.errorf"], inPlace := ["fmt.errorf"], named := ["encoding/binary.BigEndian"], apart := false }
/-- NO THEOREM (fmt's text is open here; it may be false): for the released tool's asking of the row's closed facts alone. THE STATEMENT IS 'FnUint8PairIsUint16ToldSaid' (Qxb6616505aFmtCards.lean). -/
def FnUint8PairIsUint16FormAsk : Prop := fnUint8PairIsUint16Row.holds Tryf.pinned (OpenSpec.ofChange fnUint8PairIsUint16Spec)

/-- ITS FALSE NEIGHBOUR: 'it returns false'. Refute it at one input. -/
def fnUint8PairIsUint16Wrong : ChangeSpec := { name := "fnUint8PairIsUint16", fn := fun _ => fun
  | [d1, d2] => { results := [.lit (.bool false)], args := [d1, d2] }
  | _ => none }
def FnUint8PairIsUint16WrongFormAsk : Prop := fnUint8PairIsUint16Row.holds Tryf.pinned (OpenSpec.ofChange fnUint8PairIsUint16Wrong)

/-- 'zzlaws_internal_octets_b1.FnVectorAgreesWithFixedWidthReaders': WHATEVER THE INPUT: true; the input reads as it did. -/
def fnVectorAgreesWithFixedWidthReadersSpec : ChangeSpec := { name := "fnVectorAgreesWithFixedWidthReaders", fn := fun _ => fun
  | [d1, d2, d3] => { results := [.lit (.bool true)], args := [d1, d2, d3] }
  | _ => none }
def fnVectorAgreesWithFixedWidthReadersRow : OpenClaim := { program := "qxb6616505afmt", sum := "1dbff3b076d48d86145eeec28ee5764b7cc278581f79633932efab9de0fa909f", func := "example.com/curvewire/curvewire/zzlaws_internal_octets_b1.FnVectorAgreesWithFixedWidthReaders", spec := "fnVectorAgreesWithFixedWidthReaders", stops := ["fmt.errorf"], inPlace := ["fmt.errorf"], named := ["encoding/binary.BigEndian"], apart := false }
/-- NO THEOREM (fmt's text is open here; it may be false): for the released tool's asking of the row's closed facts alone. THE STATEMENT IS 'FnVectorAgreesWithFixedWidthReadersToldSaid' (Qxb6616505aFmtCards.lean). -/
def FnVectorAgreesWithFixedWidthReadersFormAsk : Prop := fnVectorAgreesWithFixedWidthReadersRow.holds Tryf.pinned (OpenSpec.ofChange fnVectorAgreesWithFixedWidthReadersSpec)

/-- ITS FALSE NEIGHBOUR: 'it returns false'. Refute it at one input. -/
def fnVectorAgreesWithFixedWidthReadersWrong : ChangeSpec := { name := "fnVectorAgreesWithFixedWidthReaders", fn := fun _ => fun
  | [d1, d2, d3] => { results := [.lit (.bool false)], args := [d1, d2, d3] }
  | _ => none }
def FnVectorAgreesWithFixedWidthReadersWrongFormAsk : Prop := fnVectorAgreesWithFixedWidthReadersRow.holds Tryf.pinned (OpenSpec.ofChange fnVectorAgreesWithFixedWidthReadersWrong)

end Rows
end Go.Proofs.Qxb6616505aFmt
