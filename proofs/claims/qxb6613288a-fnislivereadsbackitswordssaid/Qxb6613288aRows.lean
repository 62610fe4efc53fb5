/-
  No cell of these rows narrows 'for every input' (looked for: loops, veiled, ifaces, maps, wideKeys, modest, calm, conditions, laid).
  DERIVED. THE GIVEN ROWS OF THIS SEAT. 2 by the template 'for every input the law returns true; each argument reads behind the call as it read before'; 0 by the template 'total and deterministic' (their statements: Qxb6613288aTotals.lean).
  GIVEN WITH THE SEED: the statements are not yours to turn. If you find one false, say at which input.
  Laid BY PROGRAM, IN A SANDBOX (cutbox-rows.mjs): the forced cells as the released guide's own fill.sh prints them over the translation e5b9b3236f472ff3… (all of the seat's roots in one cut). By AI agents, Wed Nov 11 2026. No macro, syntax, notation, axiom, sorry.
-/
import Derived.Test.Qxb6613288aChecked
import GoSem.Claim
import GoSem.ClaimJoined
import GoSem.ClaimMapViews
import Derived.JoinedTies
import Derived.KernelRfl
namespace Go.Proofs.Qxb6613288a
/- THE CELL 'sum', in the pinned program and in every row, IS THE sha256 OF THE DUMP (.gsa) THAT Qxb6613288aProg.lean LOADS. Nothing in Lean hashes anything: it is a label: what it is worth is what the hold of that sum in a sandbox is worth. -/
noncomputable def Try.pinned : Pinned := { name := "qxb6613288a", sum := "e5b9b3236f472ff33fbde014417f1318210c9b7ac214f590738d8d9c9669d2f2", checked := Try.checked }
namespace Rows
def none {H : Type} : Left H := { results := [], args := [] }

/-- 'zzlaws_root_b1.FnIsLiveReadsBackItsWords': WHATEVER THE INPUT: true; the input reads as it did. -/
def fnIsLiveReadsBackItsWordsSpec : ChangeSpec := { name := "fnIsLiveReadsBackItsWords", fn := fun _ => fun
  | [d1, d2] => { results := [.lit (.bool true)], args := [d1, d2] }
  | _ => none }
def fnIsLiveReadsBackItsWordsRow : OpenClaim := { program := "qxb6613288a", sum := "e5b9b3236f472ff33fbde014417f1318210c9b7ac214f590738d8d9c9669d2f2", func := "example.com/amphora/amphora/zzlaws_root_b1.FnIsLiveReadsBackItsWords", spec := "fnIsLiveReadsBackItsWords", apart := false }
def FnIsLiveReadsBackItsWordsSaid : Prop := fnIsLiveReadsBackItsWordsRow.holds Try.pinned (OpenSpec.ofChange fnIsLiveReadsBackItsWordsSpec)

/-- ITS FALSE NEIGHBOUR: 'it returns false'. Refute it at one input. -/
def fnIsLiveReadsBackItsWordsWrong : ChangeSpec := { name := "fnIsLiveReadsBackItsWords", fn := fun _ => fun
  | [d1, d2] => { results := [.lit (.bool false)], args := [d1, d2] }
  | _ => none }
def FnIsLiveReadsBackItsWordsWrongFalsely : Prop := fnIsLiveReadsBackItsWordsRow.holds Try.pinned (OpenSpec.ofChange fnIsLiveReadsBackItsWordsWrong)

/-- 'zzlaws_root_b1.FnIsLiveWordPrepended': WHATEVER THE INPUT: true; the input reads as it did. -/
def fnIsLiveWordPrependedSpec : ChangeSpec := { name := "fnIsLiveWordPrepended", fn := fun _ => fun
  | [d1, d2, d3] => { results := [.lit (.bool true)], args := [d1, d2, d3] }
  | _ => none }
def fnIsLiveWordPrependedRow : OpenClaim := { program := "qxb6613288a", sum := "e5b9b3236f472ff33fbde014417f1318210c9b7ac214f590738d8d9c9669d2f2", func := "example.com/amphora/amphora/zzlaws_root_b1.FnIsLiveWordPrepended", spec := "fnIsLiveWordPrepended", apart := false }
def FnIsLiveWordPrependedSaid : Prop := fnIsLiveWordPrependedRow.holds Try.pinned (OpenSpec.ofChange fnIsLiveWordPrependedSpec)

/-- ITS FALSE NEIGHBOUR: 'it returns false'. Refute it at one input. -/
def fnIsLiveWordPrependedWrong : ChangeSpec := { name := "fnIsLiveWordPrepended", fn := fun _ => fun
  | [d1, d2, d3] => { results := [.lit (.bool false)], args := [d1, d2, d3] }
  | _ => none }
def FnIsLiveWordPrependedWrongFalsely : Prop := fnIsLiveWordPrependedRow.holds Try.pinned (OpenSpec.ofChange fnIsLiveWordPrependedWrong)

end Rows
end Go.Proofs.Qxb6613288a
