/-
  DERIVED. GIVEN WITH THE SEED: THE CARDS: each row of Qxb6614263aFmtRows.lean that lists a variable, with what it lists TIED to the program's text (the seventh form; the later family's looks); each row that meets fmt, with fmt's text TOLD by the authors' own Lean function (tested against real Go, not proved from fmt's source: count such statements apart). THE CARD IS WHAT COUNTS. Prove the row's statement (the work); the ties are given (Qxb6614263aFmtTie.lean); close each card by the builder's one call (the guide's Derived/Test/ToyasCard.lean, 'card_holds'). Laid BY PROGRAM, IN A SANDBOX (cutbox-door.mjs). By AI agents, Wed Nov 11 2026. No macro, syntax, notation, axiom, sorry.
-/
import Derived.Test.Qxb6614263aFmtRows
import GoSem.ClaimSeven
namespace Go.Proofs.Qxb6614263aFmt
namespace Rows

/-- THE TOLD AND TIED CARD OF 'zzlaws_pkg_muxrpc_b1.FnReadHeaderTwiceReadsTwoFramesInTurn'. -/
def fnReadHeaderTwiceReadsTwoFramesInTurnCard : Claim7 := { stood := { row := fnReadHeaderTwiceReadsTwoFramesInTurnRow, standIns := [], harness := (true, "b5cc723f6652a69af3880b414ac4acf77e7c3bed819dc4c00e3fffdc49ab5888"), looks := true }, told := true, laidByText := true, laidKinds := [.sentinel, .sentinel, .sentinel], laidTests := true, laidLooks := .later, goes := false }
def FnReadHeaderTwiceReadsTwoFramesInTurnToldSaid : Prop := Claim7.holds Tryf.pinned (.plain (OpenSpec.ofChange fnReadHeaderTwiceReadsTwoFramesInTurnSpec)) fnReadHeaderTwiceReadsTwoFramesInTurnCard
/-- ITS FALSE NEIGHBOUR. Refute it at one input. -/
def FnReadHeaderTwiceReadsTwoFramesInTurnToldWrongFalsely : Prop := Claim7.holds Tryf.pinned (.plain (OpenSpec.ofChange fnReadHeaderTwiceReadsTwoFramesInTurnWrong)) fnReadHeaderTwiceReadsTwoFramesInTurnCard

/-- THE TOLD AND TIED CARD OF 'zzlaws_pkg_muxrpc_b1.FnReadHeaderHangsOnTheFirstNineBytesAlone'. -/
def fnReadHeaderHangsOnTheFirstNineBytesAloneCard : Claim7 := { stood := { row := fnReadHeaderHangsOnTheFirstNineBytesAloneRow, standIns := [], harness := (true, "b5cc723f6652a69af3880b414ac4acf77e7c3bed819dc4c00e3fffdc49ab5888"), looks := true }, told := true, laidByText := true, laidKinds := [.sentinel, .sentinel, .sentinel], laidTests := true, laidLooks := .later, goes := false }
def FnReadHeaderHangsOnTheFirstNineBytesAloneToldSaid : Prop := Claim7.holds Tryf.pinned (.plain (OpenSpec.ofChange fnReadHeaderHangsOnTheFirstNineBytesAloneSpec)) fnReadHeaderHangsOnTheFirstNineBytesAloneCard
/-- ITS FALSE NEIGHBOUR. Refute it at one input. -/
def FnReadHeaderHangsOnTheFirstNineBytesAloneToldWrongFalsely : Prop := Claim7.holds Tryf.pinned (.plain (OpenSpec.ofChange fnReadHeaderHangsOnTheFirstNineBytesAloneWrong)) fnReadHeaderHangsOnTheFirstNineBytesAloneCard
end Rows
end Go.Proofs.Qxb6614263aFmt
