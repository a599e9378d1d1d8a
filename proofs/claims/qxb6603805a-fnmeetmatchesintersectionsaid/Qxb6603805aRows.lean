/-
  No cell of these rows narrows 'for every input' (looked for: loops, veiled, ifaces, maps, wideKeys, modest, calm, conditions, laid).
  DERIVED. THE GIVEN ROWS OF THIS SEAT. 3 by the template 'for every input the law returns true; each argument reads behind the call as it read before'; 0 by the template 'total and deterministic' (their statements: Qxb6603805aTotals.lean).
  GIVEN WITH THE SEED: the statements are not yours to turn. If you find one false, say at which input.
  Laid BY PROGRAM, IN A SANDBOX (cutbox-rows.mjs): the forced cells as the released guide's own fill.sh prints them over the translation dbd16fd936c66f0b… (all of the seat's roots in one cut). By AI agents, Wed Nov 11 2026. No macro, syntax, notation, axiom, sorry.
-/
import Derived.Test.Qxb6603805aChecked
import GoSem.Claim
import GoSem.ClaimJoined
import GoSem.ClaimMapViews
import Derived.JoinedTies
import Derived.KernelRfl
namespace Go.Proofs.Qxb6603805a
/- THE CELL 'sum', in the pinned program and in every row, IS THE sha256 OF THE DUMP (.gsa) THAT Qxb6603805aProg.lean LOADS. Nothing in Lean hashes anything: it is a label: what it is worth is what the hold of that sum in a sandbox is worth. -/
noncomputable def Try.pinned : Pinned := { name := "qxb6603805a", sum := "dbd16fd936c66f0bc114adf057efb1f84e31985f360ac27a2218a61efe29b657", checked := Try.checked }
namespace Rows
def none {H : Type} : Left H := { results := [], args := [] }

/-- 'zzlaws_history_b1.FnMeetMatchesIntersection': WHATEVER THE INPUT: true; the input reads as it did. -/
def fnMeetMatchesIntersectionSpec : ChangeSpec := { name := "fnMeetMatchesIntersection", fn := fun _ => fun
  | [d1, d2, d3, d4] => { results := [.lit (.bool true)], args := [d1, d2, d3, d4] }
  | _ => none }
def fnMeetMatchesIntersectionRow : OpenClaim := { program := "qxb6603805a", sum := "dbd16fd936c66f0bc114adf057efb1f84e31985f360ac27a2218a61efe29b657", func := "example.com/tideline/tideline/zzlaws_history_b1.FnMeetMatchesIntersection", spec := "fnMeetMatchesIntersection", apart := false }
def FnMeetMatchesIntersectionSaid : Prop := fnMeetMatchesIntersectionRow.holds Try.pinned (OpenSpec.ofChange fnMeetMatchesIntersectionSpec)

/-- ITS FALSE NEIGHBOUR: 'it returns false'. Refute it at one input. -/
def fnMeetMatchesIntersectionWrong : ChangeSpec := { name := "fnMeetMatchesIntersection", fn := fun _ => fun
  | [d1, d2, d3, d4] => { results := [.lit (.bool false)], args := [d1, d2, d3, d4] }
  | _ => none }
def FnMeetMatchesIntersectionWrongFalsely : Prop := fnMeetMatchesIntersectionRow.holds Try.pinned (OpenSpec.ofChange fnMeetMatchesIntersectionWrong)

/-- 'zzlaws_history_b1.FnMeetIdempotentAndAbsorbing': WHATEVER THE INPUT: true; the input reads as it did. -/
def fnMeetIdempotentAndAbsorbingSpec : ChangeSpec := { name := "fnMeetIdempotentAndAbsorbing", fn := fun _ => fun
  | [d1, d2, d3, d4] => { results := [.lit (.bool true)], args := [d1, d2, d3, d4] }
  | _ => none }
def fnMeetIdempotentAndAbsorbingRow : OpenClaim := { program := "qxb6603805a", sum := "dbd16fd936c66f0bc114adf057efb1f84e31985f360ac27a2218a61efe29b657", func := "example.com/tideline/tideline/zzlaws_history_b1.FnMeetIdempotentAndAbsorbing", spec := "fnMeetIdempotentAndAbsorbing", apart := false }
def FnMeetIdempotentAndAbsorbingSaid : Prop := fnMeetIdempotentAndAbsorbingRow.holds Try.pinned (OpenSpec.ofChange fnMeetIdempotentAndAbsorbingSpec)

/-- ITS FALSE NEIGHBOUR: 'it returns false'. Refute it at one input. -/
def fnMeetIdempotentAndAbsorbingWrong : ChangeSpec := { name := "fnMeetIdempotentAndAbsorbing", fn := fun _ => fun
  | [d1, d2, d3, d4] => { results := [.lit (.bool false)], args := [d1, d2, d3, d4] }
  | _ => none }
def FnMeetIdempotentAndAbsorbingWrongFalsely : Prop := fnMeetIdempotentAndAbsorbingRow.holds Try.pinned (OpenSpec.ofChange fnMeetIdempotentAndAbsorbingWrong)

/-- 'zzlaws_history_b1.FnFirstFromMatchesScan': WHATEVER THE INPUT: true; the input reads as it did. -/
def fnFirstFromMatchesScanSpec : ChangeSpec := { name := "fnFirstFromMatchesScan", fn := fun _ => fun
  | [d1, d2, d3, d4] => { results := [.lit (.bool true)], args := [d1, d2, d3, d4] }
  | _ => none }
def fnFirstFromMatchesScanRow : OpenClaim := { program := "qxb6603805a", sum := "dbd16fd936c66f0bc114adf057efb1f84e31985f360ac27a2218a61efe29b657", func := "example.com/tideline/tideline/zzlaws_history_b1.FnFirstFromMatchesScan", spec := "fnFirstFromMatchesScan", apart := false }
def FnFirstFromMatchesScanSaid : Prop := fnFirstFromMatchesScanRow.holds Try.pinned (OpenSpec.ofChange fnFirstFromMatchesScanSpec)

/-- ITS FALSE NEIGHBOUR: 'it returns false'. Refute it at one input. -/
def fnFirstFromMatchesScanWrong : ChangeSpec := { name := "fnFirstFromMatchesScan", fn := fun _ => fun
  | [d1, d2, d3, d4] => { results := [.lit (.bool false)], args := [d1, d2, d3, d4] }
  | _ => none }
def FnFirstFromMatchesScanWrongFalsely : Prop := fnFirstFromMatchesScanRow.holds Try.pinned (OpenSpec.ofChange fnFirstFromMatchesScanWrong)

end Rows
end Go.Proofs.Qxb6603805a
