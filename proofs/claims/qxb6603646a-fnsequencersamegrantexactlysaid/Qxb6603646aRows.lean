/-
  No cell of these rows narrows 'for every input' (looked for: loops, veiled, ifaces, maps, wideKeys, modest, calm, conditions, laid).
  DERIVED. THE GIVEN ROWS OF THIS SEAT. 1 by the template 'for every input the law returns true; each argument reads behind the call as it read before'; 0 by the template 'total and deterministic' (their statements: Qxb6603646aTotals.lean).
  GIVEN WITH THE SEED: the statements are not yours to turn. If you find one false, say at which input.
  Laid BY PROGRAM, IN A SANDBOX (cutbox-rows.mjs): the forced cells as the released guide's own fill.sh prints them over the translation d8b79072d3132a52… (all of the seat's roots in one cut). By AI agents, Wed Nov 11 2026. No macro, syntax, notation, axiom, sorry.
-/
import Derived.Test.Qxb6603646aChecked
import GoSem.Claim
import GoSem.ClaimJoined
import GoSem.ClaimMapViews
import Derived.JoinedTies
import Derived.KernelRfl
namespace Go.Proofs.Qxb6603646a
/- THE CELL 'sum', in the pinned program and in every row, IS THE sha256 OF THE DUMP (.gsa) THAT Qxb6603646aProg.lean LOADS. Nothing in Lean hashes anything: it is a label: what it is worth is what the hold of that sum in a sandbox is worth. -/
noncomputable def Try.pinned : Pinned := { name := "qxb6603646a", sum := "d8b79072d3132a52464c5a2361a7dea954a6bd8975643cd92d7b96274352679d", checked := Try.checked }
namespace Rows
def none {H : Type} : Left H := { results := [], args := [] }

/-- 'zzlaws_internal_tree_b1.FnSequencerSameGrantExactly': WHATEVER THE INPUT: true; the input reads as it did. -/
def fnSequencerSameGrantExactlySpec : ChangeSpec := { name := "fnSequencerSameGrantExactly", fn := fun _ => fun
  | [d1, d2, d3, d4, d5, d6, d7, d8, d9, d10, d11, d12] => { results := [.lit (.bool true)], args := [d1, d2, d3, d4, d5, d6, d7, d8, d9, d10, d11, d12] }
  | _ => none }
def fnSequencerSameGrantExactlyRow : OpenClaim := { program := "qxb6603646a", sum := "d8b79072d3132a52464c5a2361a7dea954a6bd8975643cd92d7b96274352679d", func := "example.com/conclave/conclave/zzlaws_internal_tree_b1.FnSequencerSameGrantExactly", spec := "fnSequencerSameGrantExactly", apart := false }
def FnSequencerSameGrantExactlySaid : Prop := fnSequencerSameGrantExactlyRow.holds Try.pinned (OpenSpec.ofChange fnSequencerSameGrantExactlySpec)

/-- ITS FALSE NEIGHBOUR: 'it returns false'. Refute it at one input. -/
def fnSequencerSameGrantExactlyWrong : ChangeSpec := { name := "fnSequencerSameGrantExactly", fn := fun _ => fun
  | [d1, d2, d3, d4, d5, d6, d7, d8, d9, d10, d11, d12] => { results := [.lit (.bool false)], args := [d1, d2, d3, d4, d5, d6, d7, d8, d9, d10, d11, d12] }
  | _ => none }
def FnSequencerSameGrantExactlyWrongFalsely : Prop := fnSequencerSameGrantExactlyRow.holds Try.pinned (OpenSpec.ofChange fnSequencerSameGrantExactlyWrong)

end Rows
end Go.Proofs.Qxb6603646a
