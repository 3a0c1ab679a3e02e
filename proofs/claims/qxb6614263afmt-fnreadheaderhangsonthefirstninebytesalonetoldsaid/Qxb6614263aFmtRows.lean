/-
  NARROWER THAN 'FOR EVERY INPUT', by the rows' own cells (each row's printed sentence says how): FnReadHeaderTwiceReadsTwoFramesInTurn: laid · FnReadHeaderHangsOnTheFirstNineBytesAlone: laid.
  DERIVED. THE GIVEN ROWS OF THIS SEAT. 2 by the template 'for every input the law returns true; each argument reads behind the call as it read before'; 0 by the template 'total and deterministic' (their statements: Qxb6614263aFmtTotals.lean).
  GIVEN WITH THE SEED: the statements are not yours to turn. If you find one false, say at which input.
  Laid BY PROGRAM, IN A SANDBOX (cutbox-rows.mjs): the forced cells as the released guide's own fill.sh prints them over the translation 3683bccc72355652… (all of the seat's roots in one cut). By AI agents, Wed Nov 11 2026. No macro, syntax, notation, axiom, sorry.
-/
import Derived.Test.Qxb6614263aFmtChecked
import GoSem.Claim
import GoSem.ClaimJoined
import GoSem.ClaimMapViews
import Derived.JoinedTies
import Derived.KernelRfl
namespace Go.Proofs.Qxb6614263aFmt
/- THE CELL 'sum', in the pinned program and in every row, IS THE sha256 OF THE DUMP (.gsa) THAT Qxb6614263aFmtProg.lean LOADS. Nothing in Lean hashes anything: it is a label: what it is worth is what the hold of that sum in a sandbox is worth. -/
noncomputable def Tryf.pinned : Pinned := { name := "qxb6614263afmt", sum := "3683bccc72355652d89031c118f5eb223dc7b11aaf11aecfb4f7bb6742f76d62", checked := Tryf.checked }
namespace Rows
def none {H : Type} : Left H := { results := [], args := [] }

/- WHAT THE LISTED PACKAGE-LEVEL VARIABLES READ AS WHEN THE CALL BEGINS. Each datum BY PROGRAM (the guide's laid-datum.mjs) off the statement by which the dump's own 'gosem.cut.vars' lays the variable. In a bare row this is a premise. The card (Qxb6614263aFmtCards.lean) ties it to the program's text. -/
def laid_io_ErrShortBuffer {H : Type} : DataW H := .iface "*errors.errorString" (.ptr (.agg [.lit (.string [115, 104, 111, 114, 116, 32, 98, 117, 102, 102, 101, 114])]))
def laid_io_EOF {H : Type} : DataW H := .iface "*errors.errorString" (.ptr (.agg [.lit (.string [69, 79, 70])]))
def laid_io_ErrUnexpectedEOF {H : Type} : DataW H := .iface "*errors.errorString" (.ptr (.agg [.lit (.string [117, 110, 101, 120, 112, 101, 99, 116, 101, 100, 32, 69, 79, 70])]))

/-- 'zzlaws_pkg_muxrpc_b1.FnReadHeaderTwiceReadsTwoFramesInTurn': WHATEVER THE INPUT: true; the input reads as it did. -/
def fnReadHeaderTwiceReadsTwoFramesInTurnSpec : ChangeSpec := { name := "fnReadHeaderTwiceReadsTwoFramesInTurn", fn := fun _ => fun
  | [d] => { results := [.lit (.bool true)], args := [d] }
  | _ => none }
def fnReadHeaderTwiceReadsTwoFramesInTurnRow : OpenClaim := { program := "qxb6614263afmt", sum := "3683bccc72355652d89031c118f5eb223dc7b11aaf11aecfb4f7bb6742f76d62", func := "example.com/venue-for-peers/venue-for-peers/zzlaws_pkg_muxrpc_b1.FnReadHeaderTwiceReadsTwoFramesInTurn", spec := "fnReadHeaderTwiceReadsTwoFramesInTurn", stops := ["fmt.errorf"], inPlace := ["fmt.errorf"], unfollowed := true, recurses := true, named := ["encoding/binary.BigEndian", "io.ErrShortBuffer", "io.EOF", "io.ErrUnexpectedEOF"], apart := false, laid := [("io.ErrShortBuffer", laid_io_ErrShortBuffer), ("io.EOF", laid_io_EOF), ("io.ErrUnexpectedEOF", laid_io_ErrUnexpectedEOF)] }
/-- NO THEOREM (fmt's text is open here; it may be false): for the released tool's asking of the row's closed facts alone. THE STATEMENT IS 'FnReadHeaderTwiceReadsTwoFramesInTurnToldSaid' (Qxb6614263aFmtCards.lean). -/
def FnReadHeaderTwiceReadsTwoFramesInTurnFormAsk : Prop := fnReadHeaderTwiceReadsTwoFramesInTurnRow.holds Tryf.pinned (OpenSpec.ofChange fnReadHeaderTwiceReadsTwoFramesInTurnSpec)

/-- ITS FALSE NEIGHBOUR: 'it returns false'. Refute it at one input. -/
def fnReadHeaderTwiceReadsTwoFramesInTurnWrong : ChangeSpec := { name := "fnReadHeaderTwiceReadsTwoFramesInTurn", fn := fun _ => fun
  | [d] => { results := [.lit (.bool false)], args := [d] }
  | _ => none }
def FnReadHeaderTwiceReadsTwoFramesInTurnWrongFormAsk : Prop := fnReadHeaderTwiceReadsTwoFramesInTurnRow.holds Tryf.pinned (OpenSpec.ofChange fnReadHeaderTwiceReadsTwoFramesInTurnWrong)

/-- 'zzlaws_pkg_muxrpc_b1.FnReadHeaderHangsOnTheFirstNineBytesAlone': WHATEVER THE INPUT: true; the input reads as it did. -/
def fnReadHeaderHangsOnTheFirstNineBytesAloneSpec : ChangeSpec := { name := "fnReadHeaderHangsOnTheFirstNineBytesAlone", fn := fun _ => fun
  | [d1, d2] => { results := [.lit (.bool true)], args := [d1, d2] }
  | _ => none }
def fnReadHeaderHangsOnTheFirstNineBytesAloneRow : OpenClaim := { program := "qxb6614263afmt", sum := "3683bccc72355652d89031c118f5eb223dc7b11aaf11aecfb4f7bb6742f76d62", func := "example.com/venue-for-peers/venue-for-peers/zzlaws_pkg_muxrpc_b1.FnReadHeaderHangsOnTheFirstNineBytesAlone", spec := "fnReadHeaderHangsOnTheFirstNineBytesAlone", stops := ["fmt.errorf"], inPlace := ["fmt.errorf"], unfollowed := true, recurses := true, named := ["encoding/binary.BigEndian", "io.ErrShortBuffer", "io.EOF", "io.ErrUnexpectedEOF"], apart := false, laid := [("io.ErrShortBuffer", laid_io_ErrShortBuffer), ("io.EOF", laid_io_EOF), ("io.ErrUnexpectedEOF", laid_io_ErrUnexpectedEOF)] }
/-- NO THEOREM (fmt's text is open here; it may be false): for the released tool's asking of the row's closed facts alone. THE STATEMENT IS 'FnReadHeaderHangsOnTheFirstNineBytesAloneToldSaid' (Qxb6614263aFmtCards.lean). -/
def FnReadHeaderHangsOnTheFirstNineBytesAloneFormAsk : Prop := fnReadHeaderHangsOnTheFirstNineBytesAloneRow.holds Tryf.pinned (OpenSpec.ofChange fnReadHeaderHangsOnTheFirstNineBytesAloneSpec)

/-- ITS FALSE NEIGHBOUR: 'it returns false'. Refute it at one input. -/
def fnReadHeaderHangsOnTheFirstNineBytesAloneWrong : ChangeSpec := { name := "fnReadHeaderHangsOnTheFirstNineBytesAlone", fn := fun _ => fun
  | [d1, d2] => { results := [.lit (.bool false)], args := [d1, d2] }
  | _ => none }
def FnReadHeaderHangsOnTheFirstNineBytesAloneWrongFormAsk : Prop := fnReadHeaderHangsOnTheFirstNineBytesAloneRow.holds Tryf.pinned (OpenSpec.ofChange fnReadHeaderHangsOnTheFirstNineBytesAloneWrong)

end Rows
end Go.Proofs.Qxb6614263aFmt
