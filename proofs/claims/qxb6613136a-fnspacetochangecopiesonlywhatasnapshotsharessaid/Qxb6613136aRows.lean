/-
  No cell of these rows narrows 'for every input' (looked for: loops, veiled, ifaces, maps, wideKeys, modest, calm, conditions, laid).
  DERIVED. THE GIVEN ROWS OF THIS SEAT. 2 by the template 'for every input the law returns true; each argument reads behind the call as it read before'; 0 by the template 'total and deterministic' (their statements: Qxb6613136aTotals.lean).
  GIVEN WITH THE SEED: the statements are not yours to turn. If you find one false, say at which input.
  Laid BY PROGRAM, IN A SANDBOX (cutbox-rows.mjs): the forced cells as the released guide's own fill.sh prints them over the translation b3f414123f11d112… (all of the seat's roots in one cut). By AI agents, Wed Nov 11 2026. No macro, syntax, notation, axiom, sorry.
-/
import Derived.Test.Qxb6613136aChecked
import GoSem.Claim
import GoSem.ClaimJoined
import GoSem.ClaimMapViews
import Derived.JoinedTies
import Derived.KernelRfl
namespace Go.Proofs.Qxb6613136a
/- THE CELL 'sum', in the pinned program and in every row, IS THE sha256 OF THE DUMP (.gsa) THAT Qxb6613136aProg.lean LOADS. Nothing in Lean hashes anything: it is a label: what it is worth is what the hold of that sum in a sandbox is worth. -/
noncomputable def Try.pinned : Pinned := { name := "qxb6613136a", sum := "b3f414123f11d112d603aef023f5eed6630265604fefc60803cbef84409bf974", checked := Try.checked }
namespace Rows
def none {H : Type} : Left H := { results := [], args := [] }

/-- 'zzlaws_pkg_store_b1.FnSpaceToChangeCopiesOnlyWhatASnapshotShares': WHATEVER THE INPUT: true; the input reads as it did. -/
def fnSpaceToChangeCopiesOnlyWhatASnapshotSharesSpec : ChangeSpec := { name := "fnSpaceToChangeCopiesOnlyWhatASnapshotShares", fn := fun _ => fun
  | [d1, d2, d3] => { results := [.lit (.bool true)], args := [d1, d2, d3] }
  | _ => none }
def fnSpaceToChangeCopiesOnlyWhatASnapshotSharesRow : OpenClaim := { program := "qxb6613136a", sum := "b3f414123f11d112d603aef023f5eed6630265604fefc60803cbef84409bf974", func := "example.com/honeybee/honeybee/zzlaws_pkg_store_b1.FnSpaceToChangeCopiesOnlyWhatASnapshotShares", spec := "fnSpaceToChangeCopiesOnlyWhatASnapshotShares", inPlace := ["maps.clone"], plainKeys := false, apart := false }
def FnSpaceToChangeCopiesOnlyWhatASnapshotSharesSaid : Prop := fnSpaceToChangeCopiesOnlyWhatASnapshotSharesRow.holds Try.pinned (OpenSpec.ofChange fnSpaceToChangeCopiesOnlyWhatASnapshotSharesSpec)

/-- ITS FALSE NEIGHBOUR: 'it returns false'. Refute it at one input. -/
def fnSpaceToChangeCopiesOnlyWhatASnapshotSharesWrong : ChangeSpec := { name := "fnSpaceToChangeCopiesOnlyWhatASnapshotShares", fn := fun _ => fun
  | [d1, d2, d3] => { results := [.lit (.bool false)], args := [d1, d2, d3] }
  | _ => none }
def FnSpaceToChangeCopiesOnlyWhatASnapshotSharesWrongFalsely : Prop := fnSpaceToChangeCopiesOnlyWhatASnapshotSharesRow.holds Try.pinned (OpenSpec.ofChange fnSpaceToChangeCopiesOnlyWhatASnapshotSharesWrong)

/-- 'zzlaws_pkg_store_b1.FnSpaceToChangeTwiceGivesOneMap': WHATEVER THE INPUT: true; the input reads as it did. -/
def fnSpaceToChangeTwiceGivesOneMapSpec : ChangeSpec := { name := "fnSpaceToChangeTwiceGivesOneMap", fn := fun _ => fun
  | [d1, d2, d3] => { results := [.lit (.bool true)], args := [d1, d2, d3] }
  | _ => none }
def fnSpaceToChangeTwiceGivesOneMapRow : OpenClaim := { program := "qxb6613136a", sum := "b3f414123f11d112d603aef023f5eed6630265604fefc60803cbef84409bf974", func := "example.com/honeybee/honeybee/zzlaws_pkg_store_b1.FnSpaceToChangeTwiceGivesOneMap", spec := "fnSpaceToChangeTwiceGivesOneMap", inPlace := ["maps.clone"], plainKeys := false, apart := false }
def FnSpaceToChangeTwiceGivesOneMapSaid : Prop := fnSpaceToChangeTwiceGivesOneMapRow.holds Try.pinned (OpenSpec.ofChange fnSpaceToChangeTwiceGivesOneMapSpec)

/-- ITS FALSE NEIGHBOUR: 'it returns false'. Refute it at one input. -/
def fnSpaceToChangeTwiceGivesOneMapWrong : ChangeSpec := { name := "fnSpaceToChangeTwiceGivesOneMap", fn := fun _ => fun
  | [d1, d2, d3] => { results := [.lit (.bool false)], args := [d1, d2, d3] }
  | _ => none }
def FnSpaceToChangeTwiceGivesOneMapWrongFalsely : Prop := fnSpaceToChangeTwiceGivesOneMapRow.holds Try.pinned (OpenSpec.ofChange fnSpaceToChangeTwiceGivesOneMapWrong)

end Rows
end Go.Proofs.Qxb6613136a
