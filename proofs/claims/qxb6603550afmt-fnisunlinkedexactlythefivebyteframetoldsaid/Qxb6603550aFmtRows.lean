/-
  No cell of these rows narrows 'for every input' (looked for: loops, veiled, ifaces, maps, wideKeys, modest, calm, conditions, laid).
  DERIVED. THE GIVEN ROWS OF THIS SEAT. 1 by the template 'for every input the law returns true; each argument reads behind the call as it read before'; 0 by the template 'total and deterministic' (their statements: Qxb6603550aFmtTotals.lean).
  GIVEN WITH THE SEED: the statements are not yours to turn. If you find one false, say at which input.
  Laid BY PROGRAM, IN A SANDBOX (cutbox-rows.mjs): the forced cells as the released guide's own fill.sh prints them over the translation a9e251344bbee55b… (all of the seat's roots in one cut). By AI agents, Wed Nov 11 2026. No macro, syntax, notation, axiom, sorry.
-/
import Derived.Test.Qxb6603550aFmtChecked
import GoSem.Claim
import GoSem.ClaimJoined
import GoSem.ClaimMapViews
import Derived.JoinedTies
import Derived.KernelRfl
namespace Go.Proofs.Qxb6603550aFmt
/- THE CELL 'sum', in the pinned program and in every row, IS THE sha256 OF THE DUMP (.gsa) THAT Qxb6603550aFmtProg.lean LOADS. Nothing in Lean hashes anything: it is a label: what it is worth is what the hold of that sum in a sandbox is worth. -/
noncomputable def Tryf.pinned : Pinned := { name := "qxb6603550afmt", sum := "a9e251344bbee55bb14760471143def976df145a93d10bb538167be4f37374c4", checked := Tryf.checked }
namespace Rows
def none {H : Type} : Left H := { results := [], args := [] }

/-- 'zzlaws_wire_b1.FnIsUnlinkedExactlyTheFiveByteFrame': WHATEVER THE INPUT: true; the input reads as it did. -/
def fnIsUnlinkedExactlyTheFiveByteFrameSpec : ChangeSpec := { name := "fnIsUnlinkedExactlyTheFiveByteFrame", fn := fun _ => fun
  | [d] => { results := [.lit (.bool true)], args := [d] }
  | _ => none }
def fnIsUnlinkedExactlyTheFiveByteFrameRow : OpenClaim := { program := "qxb6603550afmt", sum := "a9e251344bbee55bb14760471143def976df145a93d10bb538167be4f37374c4", func := "example.com/beforehand/beforehand/zzlaws_wire_b1.FnIsUnlinkedExactlyTheFiveByteFrame", spec := "fnIsUnlinkedExactlyTheFiveByteFrame", stops := ["fmt.errorf"], inPlace := ["fmt.errorf"], named := ["encoding/binary.BigEndian"], apart := false }
/-- NO THEOREM (fmt's text is open here; it may be false): for the released tool's asking of the row's closed facts alone. THE STATEMENT IS 'FnIsUnlinkedExactlyTheFiveByteFrameToldSaid' (Qxb6603550aFmtCards.lean). -/
def FnIsUnlinkedExactlyTheFiveByteFrameFormAsk : Prop := fnIsUnlinkedExactlyTheFiveByteFrameRow.holds Tryf.pinned (OpenSpec.ofChange fnIsUnlinkedExactlyTheFiveByteFrameSpec)

/-- ITS FALSE NEIGHBOUR: 'it returns false'. Refute it at one input. -/
def fnIsUnlinkedExactlyTheFiveByteFrameWrong : ChangeSpec := { name := "fnIsUnlinkedExactlyTheFiveByteFrame", fn := fun _ => fun
  | [d] => { results := [.lit (.bool false)], args := [d] }
  | _ => none }
def FnIsUnlinkedExactlyTheFiveByteFrameWrongFormAsk : Prop := fnIsUnlinkedExactlyTheFiveByteFrameRow.holds Tryf.pinned (OpenSpec.ofChange fnIsUnlinkedExactlyTheFiveByteFrameWrong)

end Rows
end Go.Proofs.Qxb6603550aFmt
