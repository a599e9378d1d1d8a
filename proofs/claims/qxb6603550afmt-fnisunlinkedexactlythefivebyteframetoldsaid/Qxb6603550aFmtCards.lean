/-
  DERIVED. GIVEN WITH THE SEED: THE CARDS: each row of Qxb6603550aFmtRows.lean that lists a variable, with what it lists TIED to the program's text (the seventh form; the later family's looks); each row that meets fmt, with fmt's text TOLD by the authors' own Lean function (tested against real Go, not proved from fmt's source: count such statements apart). THE CARD IS WHAT COUNTS. Prove the row's statement (the work); the ties are given (Qxb6603550aFmtTie.lean); close each card by the builder's one call (the guide's Derived/Test/ToyasCard.lean, 'card_holds'). Laid BY PROGRAM, IN A SANDBOX (cutbox-door.mjs). By AI agents, Wed Nov 11 2026. No macro, syntax, notation, axiom, sorry.
-/
import Derived.Test.Qxb6603550aFmtRows
import GoSem.ClaimSeven
namespace Go.Proofs.Qxb6603550aFmt
namespace Rows

/-- THE TOLD CARD OF 'zzlaws_wire_b1.FnIsUnlinkedExactlyTheFiveByteFrame'. -/
def fnIsUnlinkedExactlyTheFiveByteFrameCard : Claim7 := { stood := { row := fnIsUnlinkedExactlyTheFiveByteFrameRow, standIns := [], harness := (true, "80f5afd64557e6ae2a44600fa72add16ea7507b17c0b41e1ae88cb1defa7b7a4"), looks := false }, told := true, goes := false }
def FnIsUnlinkedExactlyTheFiveByteFrameToldSaid : Prop := Claim7.holds Tryf.pinned (.plain (OpenSpec.ofChange fnIsUnlinkedExactlyTheFiveByteFrameSpec)) fnIsUnlinkedExactlyTheFiveByteFrameCard
/-- ITS FALSE NEIGHBOUR. Refute it at one input. -/
def FnIsUnlinkedExactlyTheFiveByteFrameToldWrongFalsely : Prop := Claim7.holds Tryf.pinned (.plain (OpenSpec.ofChange fnIsUnlinkedExactlyTheFiveByteFrameWrong)) fnIsUnlinkedExactlyTheFiveByteFrameCard
end Rows
end Go.Proofs.Qxb6603550aFmt
