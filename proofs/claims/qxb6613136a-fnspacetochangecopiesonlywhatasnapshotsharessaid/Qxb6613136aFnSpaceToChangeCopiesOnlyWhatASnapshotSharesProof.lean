/-
  The proof of 'Rows.FnSpaceToChangeCopiesOnlyWhatASnapshotSharesSaid': the row's frame, over slices of strings, round the walk.
-/
import Derived.Test.Qxb6613136aRows
import Derived.WalkKit
import Derived.ProofKit
import Derived.OpenShut
import Derived.ShutString
import Derived.ChangeOld
import Derived.Below
import Derived.SliceStrings
import Derived.Test.Qxb6613136aCopies
namespace Go.Proofs.Qxb6613136a.fnSpaceToChangeCopiesOnlyWhatASnapshotShares
open Go.ChangeShapes Go.WideShapes Go.ChangeAt Go.RowKit
open Go.ChangeMaps (open_string shut_string)
set_option linter.unusedVariables false

theorem own : ownKnob Try.prog.godebug = none := by kernel_rfl

/-- a slice of strings that was read, as the walk wants it -/
theorem strs_of {H : Type} {enc : TypeId × Value → H} {W : World} {a : Option Addr} {len cap fuel : Nat} {x : DataW H × List MemPlace}
    (hf : DataW.trod enc Try.prog W 0 (fun _ => true) true fuel 22 (Value.cells (.slice a len cap)).toList = some x) : ∃ f, StrsAt W a len f := by
  rcases open_strings Try.underlying22 Try.underlying9 (by kernel_rfl) hf with ⟨hcs, _⟩ | ⟨y, l, c, ss, hcs, _, hl, hm, hz, _, hcell, hws⟩
  · simp [Value.cells] at hcs
    obtain ⟨rfl, rfl, rfl⟩ := hcs
    exact ⟨fun _ => ByteArray.empty, Nat.zero_le _, fun i hi => by omega, fun h => by omega⟩
  · simp [Value.cells] at hcs
    obtain ⟨rfl, rfl, rfl⟩ := hcs
    simp only [if_true] at hz
    refine ⟨fun i => ss.getD i ByteArray.empty, Nat.le_trans hl hm, fun i hi => ?_, fun h => ?_⟩
    · have hi' : i < ss.length := by omega
      refine hws _ ?_
      rw [List.getD_eq_getElem?_getD, List.getElem?_eq_getElem hi']
      exact List.getElem_mem hi'
    · have h0 := hcell 0 (by omega)
      obtain ⟨b, off, sp⟩ := y
      rw [show Addr.add ⟨b, off, sp⟩ 0 = ⟨b, off, sp⟩ from rfl] at h0
      have hsp : sp = none := by
        cases sp with
        | none => rfl
        | some z => unfold World.cell? at h0; split at h0 <;> simp at h0
      subst hsp
      have hb : b < W.heap.size := by
        rcases Nat.lt_or_ge b W.heap.size with g | g
        · exact g
        · unfold World.cell? at h0
          rw [show W.heap[b]? = none from by simp [g]] at h0
          simp at h0
      refine ⟨b, off, rfl, hb, fun i hi => ?_⟩
      have := hcell i (by omega)
      rwa [show (⟨b, off, none⟩ : Addr).add i = ⟨b, off + i, none⟩ from by unfold Addr.add; split <;> simp_all] at this

/-! ### THE ROW's STEP -/
set_option maxRecDepth 100000 in
theorem lifted (os : Os) (started : os.Started) (H : Type) (enc : TypeId × Value → H) :
    ReturnsInHanded {} Try.checked os 3 .any (Rows.fnSpaceToChangeCopiesOnlyWhatASnapshotSharesSpec.pre6 enc Try.prog Try.f3 Rows.fnSpaceToChangeCopiesOnlyWhatASnapshotSharesRow.domain false) (Rows.fnSpaceToChangeCopiesOnlyWhatASnapshotSharesSpec.post enc Try.prog Try.f3 false true false false) := by
  refine returnsInHanded_of_change (C := Try.checked) own started (by kernel_rfl) Try.func3
    (ChangeSpec.witness6 (enc := enc) (C := Try.checked) false ⟨#[], #[.slice none 0 0, .slice none 0 0, .string ByteArray.empty], []⟩ 8 (by kernel_rfl) (by kernel_rfl) (by kernel_rfl) (by kernel_rfl)) ?_
  intro W base args ds gs before hval0 hW hcnd _
  have hval : ∀ (j : Nat) t v, Try.f3.params[j]? = some t → args[j]? = some v → Value.okWide Try.prog W .any base t v := hval0
  have hW' := hW
  obtain ⟨p, q, hA0, hV, rfl, hfz, hnd⟩ := hW
  have hA : DataW.TrodAll enc Try.prog W 0 (fun _ => true) true Try.f3.params.toList args.toList ds p := hA0
  rw [Try.params3] at hA hval
  obtain ⟨v0, vs0, d0, ds0, p0, q0, hargs, rfl, rfl, h0, r0⟩ := trodAll_cons hA
  obtain ⟨v1, vs1, d1, ds1, p1, q1, rfl, rfl, rfl, h1, r1⟩ := trodAll_cons r0
  obtain ⟨v2, vs2, d2, ds2, p2, q2, rfl, rfl, rfl, h2, r2⟩ := trodAll_cons r1
  obtain ⟨rfl, rfl, rfl⟩ := trodAll_nil r2
  obtain rfl : args = #[v0, v1, v2] := by cases args; simp_all
  obtain ⟨rfl, rfl⟩ := trodVars_none hV
  obtain ⟨a0, len0, cap0, rfl⟩ := okWide_slice Try.underlying22 (hval 0 22 v0 rfl rfl)
  obtain ⟨a1, len1, cap1, rfl⟩ := okWide_slice Try.underlying22 (hval 1 22 v1 rfl rfl)
  have k0 := h0
  have k1 := h1
  have lt0 : ∀ x ∈ p0, x.block < W.heap.size := by obtain ⟨m, hm⟩ := k0; exact DataW.trod_lt m _ _ _ hm
  have lt1 : ∀ x ∈ p1, x.block < W.heap.size := by obtain ⟨m, hm⟩ := k1; exact DataW.trod_lt m _ _ _ hm
  obtain ⟨f0, w0⟩ : ∃ f, StrsAt W a0 len0 f := by obtain ⟨fuel, hf⟩ := h0; exact strs_of hf
  obtain ⟨f1, w1⟩ : ∃ f, StrsAt W a1 len1 f := by obtain ⟨fuel, hf⟩ := h1; exact strs_of hf
  obtain ⟨a2, rfl, rfl, rfl, w2⟩ := open_string Try.underlying9 (hval 2 9 v2 rfl rfl) h2
  clear hA0 hval0
  refine (copies3 a0 a1 len0 cap0 len1 cap1 f0 f1 a2 W w0 w1 w2).mono fun e W' ⟨he, bel⟩ => ?_
  subst he
  exact ⟨_, rfl, _, _, _, [], _, [], hW', trodAll_mk1 (shut_bool Try.underlying4 _), (trodAll_cons_mk (Below.trod laidOut (by kernel_rfl) (of_decide_eq_true (by kernel_rfl)) k0 bel lt0) (trodAll_cons_mk (Below.trod laidOut (by kernel_rfl) (of_decide_eq_true (by kernel_rfl)) k1 bel lt1) (trodAll_cons_mk (shut_string Try.underlying9 w2) trodAll_mk0))), rfl, bel.frame _, fun h => by cases h⟩

theorem over : Rows.fnSpaceToChangeCopiesOnlyWhatASnapshotSharesRow.holds Try.pinned (OpenSpec.ofChange Rows.fnSpaceToChangeCopiesOnlyWhatASnapshotSharesSpec) :=
  OpenClaim.holds_of_wide 3 Try.f3 rfl rfl rfl rfl rfl rfl rfl ⟨rfl, rfl, rfl, rfl, rfl⟩ rfl rfl rfl rfl rfl (by kernel_rfl) Try.func3 (by kernel_rfl)
    (of_decide_eq_true (by kernel_rfl)) (by unfold Func.isWrapper; first | (rw [if_pos (by decide +kernel)]; kernel_rfl) | (rw [if_neg (by decide +kernel)]; exact ⟨rfl, rfl⟩))
    (fun os started H enc _ => lifted os started H enc)

/-- THE STATEMENT -/
theorem proved : Rows.FnSpaceToChangeCopiesOnlyWhatASnapshotSharesSaid := over
#print axioms proved
end Go.Proofs.Qxb6613136a.fnSpaceToChangeCopiesOnlyWhatASnapshotShares
