/-
  No cell of these rows narrows 'for every input' (looked for: loops, veiled, ifaces, maps, wideKeys, modest, calm, conditions, laid).
  DERIVED. THE GIVEN ROWS OF THIS SEAT. 1 by the template 'for every input the law returns true; each argument reads behind the call as it read before'; 0 by the template 'total and deterministic' (their statements: Qxb6613266aTotals.lean).
  GIVEN WITH THE SEED: the statements are not yours to turn. If you find one false, say at which input.
  Laid BY PROGRAM, IN A SANDBOX (cutbox-rows.mjs): the forced cells as the released guide's own fill.sh prints them over the translation ed0b67480cafab8d… (all of the seat's roots in one cut). By AI agents, Wed Nov 11 2026. No macro, syntax, notation, axiom, sorry.
-/
import Derived.Test.Qxb6613266aChecked
import GoSem.Claim
import GoSem.ClaimJoined
import GoSem.ClaimMapViews
import Derived.JoinedTies
import Derived.KernelRfl
namespace Go.Proofs.Qxb6613266a
/- THE CELL 'sum', in the pinned program and in every row, IS THE sha256 OF THE DUMP (.gsa) THAT Qxb6613266aProg.lean LOADS. Nothing in Lean hashes anything: it is a label: what it is worth is what the hold of that sum in a sandbox is worth. -/
noncomputable def Try.pinned : Pinned := { name := "qxb6613266a", sum := "ed0b67480cafab8d396137c57d92703613bb25c18415dad08156744cbc9069b0", checked := Try.checked }
namespace Rows
def none {H : Type} : Left H := { results := [], args := [] }

/-- 'zzlaws_ntp_b1.FnVersionXorLinearAndFirstByteOnly': WHATEVER THE INPUT: true; the input reads as it did. -/
def fnVersionXorLinearAndFirstByteOnlySpec : ChangeSpec := { name := "fnVersionXorLinearAndFirstByteOnly", fn := fun _ => fun
  | [d1, d2, d3] => { results := [.lit (.bool true)], args := [d1, d2, d3] }
  | _ => none }
def fnVersionXorLinearAndFirstByteOnlyRow : OpenClaim := { program := "qxb6613266a", sum := "ed0b67480cafab8d396137c57d92703613bb25c18415dad08156744cbc9069b0", func := "example.com/skewline/skewline/zzlaws_ntp_b1.FnVersionXorLinearAndFirstByteOnly", spec := "fnVersionXorLinearAndFirstByteOnly", apart := false }
def FnVersionXorLinearAndFirstByteOnlySaid : Prop := fnVersionXorLinearAndFirstByteOnlyRow.holds Try.pinned (OpenSpec.ofChange fnVersionXorLinearAndFirstByteOnlySpec)

/-- ITS FALSE NEIGHBOUR: 'it returns false'. Refute it at one input. -/
def fnVersionXorLinearAndFirstByteOnlyWrong : ChangeSpec := { name := "fnVersionXorLinearAndFirstByteOnly", fn := fun _ => fun
  | [d1, d2, d3] => { results := [.lit (.bool false)], args := [d1, d2, d3] }
  | _ => none }
def FnVersionXorLinearAndFirstByteOnlyWrongFalsely : Prop := fnVersionXorLinearAndFirstByteOnlyRow.holds Try.pinned (OpenSpec.ofChange fnVersionXorLinearAndFirstByteOnlyWrong)

end Rows
end Go.Proofs.Qxb6613266a
