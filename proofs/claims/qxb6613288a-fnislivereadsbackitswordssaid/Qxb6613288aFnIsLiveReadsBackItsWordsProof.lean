/-
  The proof of 'Rows.FnIsLiveReadsBackItsWordsSaid', over the shell that the kit's tool wrote for this function.
-/
import Derived.Test.Qxb6613288aRows
import Derived.WalkKit
import Derived.ProofKit
import Derived.OpenShut
import Derived.ShutString
import Derived.ChangeOld
import Derived.Below
import Derived.Test.Qxb6613288aReads
namespace Go.Proofs.Qxb6613288a.fnIsLiveReadsBackItsWords
open Go.ChangeShapes Go.WideShapes Go.ChangeAt Go.RowKit
open Go.ChangeMaps (open_string shut_string)
set_option linter.unusedVariables false

theorem own : ownKnob Try.prog.godebug = none := by kernel_rfl
theorem laidOut : laidOutB Try.prog = true := by kernel_rfl

/-- WHAT THE WALK IS TOLD OF A SLICE OF INTEGERS THAT CAME IN: it is nil; or it leads to a row of 'cap' cells, the numbers 'zs' (the first 'len' are its elements, the rest its spare room), each fitting its kind. -/
def IsRow (k : IntKind) (w : World) (a : Option Addr) (len cap : Nat) (zs : List Int) : Prop :=
  (a = none ∧ len = 0 ∧ cap = 0 ∧ zs = []) ∨
  ∃ x, a = some x ∧ len ≤ cap ∧ cap ≤ maxLen ∧ zs.length = cap ∧ (∀ i, i < zs.length → w.cell? (x.add i) = some (.int k (zs.getD i 0))) ∧ ∀ n ∈ zs, (Lit.int k n).wf = true

/-- the words that came in, as the walk wants them -/
theorem words_of {w : World} {a : Option Addr} {len cap : Nat} {zs : List Int} (h : IsRow .u64 w a len cap zs) : WordsAt w a len (fun j => (zs.getD j 0).toNat) ∧ len ≤ maxLen := by
  rcases h with ⟨rfl, rfl, _, _⟩ | ⟨x, rfl, h1, h2, hz, hcell, hwz⟩
  · exact ⟨⟨fun _ => rfl, fun j hj => by omega, fun h => by omega⟩, Nat.zero_le _⟩
  · have hbd : ∀ j, j < zs.length → 0 ≤ zs.getD j 0 ∧ zs.getD j 0 ≤ 18446744073709551615 := by
      intro j hj
      refine bounds_u64 (hwz _ ?_)
      rw [List.getD_eq_getElem?_getD, List.getElem?_eq_getElem hj]
      exact List.getElem_mem hj
    refine ⟨⟨fun h => (by cases h), fun j hj => ?_, fun h0 => ?_⟩, Nat.le_trans h1 h2⟩
    · have := hbd j (by omega)
      show (zs.getD j 0).toNat < two64
      unfold two64
      omega
    · have hc0 := hcell 0 (by omega)
      obtain ⟨b, off, sp⟩ := x
      rw [show Addr.add ⟨b, off, sp⟩ 0 = ⟨b, off, sp⟩ from rfl] at hc0
      have hsp : sp = none := by
        cases sp with
        | none => rfl
        | some z => unfold World.cell? at hc0; split at hc0 <;> simp at hc0
      subst hsp
      have hb : b < w.heap.size := by
        rcases Nat.lt_or_ge b w.heap.size with g | g
        · exact g
        · unfold World.cell? at hc0
          rw [show w.heap[b]? = none from by simp [g]] at hc0
          simp at hc0
      refine ⟨b, off, rfl, hb, fun j hj => ?_⟩
      have hj2 := hbd j (by omega)
      rw [show ((zs.getD j 0).toNat : Int) = zs.getD j 0 from Int.toNat_of_nonneg hj2.1]
      have := hcell j (by omega)
      rwa [show (⟨b, off, none⟩ : Addr).add j = ⟨b, off + j, none⟩ from by unfold Addr.add; split <;> simp_all] at this

/-! ### STEP 1: THE WALK: the Go text returns true, and writes nothing that was there -/
theorem walk (a0 : Option Addr) (len0 cap0 : Nat) (z0 : List Int) (a1 : Int) (w : World) (w0 : IsRow .u64 w a0 len0 cap0 z0) (w1 : (Lit.int .u64 a1).wf = true) :
    Calls Try.prog 3 #[.slice a0 len0 cap0, .int .u64 a1] w fun e w' => e = .returned (.bool true) ∧ Below w.heap.size w w' := by
  obtain ⟨hw, hlen⟩ := words_of w0
  have hb1 := bounds_u64 w1
  by_cases h : 65536 < len0
  · exact reads_out a0 len0 cap0 a1 hlen h w
  · obtain ⟨id, rfl⟩ := Int.eq_ofNat_of_zero_le hb1.1
    cases a0 with
    | none =>
      obtain rfl := hw.nil rfl
      exact reads_nil cap0 id (by unfold two64; omega) w
    | some x => exact reads_some x len0 cap0 _ id (by unfold two64; omega) (by omega) w hw

/-! ### THE ROW's STEP: WRITTEN OUT: LEAVE IT -/
set_option maxRecDepth 100000 in
theorem lifted (os : Os) (started : os.Started) (H : Type) (enc : TypeId × Value → H) :
    ReturnsInHanded {} Try.checked os 3 .any (Rows.fnIsLiveReadsBackItsWordsSpec.pre6 enc Try.prog Try.f3 Rows.fnIsLiveReadsBackItsWordsRow.domain false) (Rows.fnIsLiveReadsBackItsWordsSpec.post enc Try.prog Try.f3 false true false false) := by
  refine returnsInHanded_of_change (C := Try.checked) own started (by kernel_rfl) Try.func3
    (ChangeSpec.witness6 (enc := enc) (C := Try.checked) false ⟨#[], #[.slice none 0 0, .int .u64 0], []⟩ 8 (by kernel_rfl) (by kernel_rfl) (by kernel_rfl) (by kernel_rfl)) ?_
  intro W base args ds gs before hval0 hW hcnd _
  have hval : ∀ (j : Nat) t v, Try.f3.params[j]? = some t → args[j]? = some v → Value.okWide Try.prog W .any base t v := hval0
  have hW' := hW
  obtain ⟨p, q, hA0, hV, rfl, hfz, hnd⟩ := hW
  have hA : DataW.TrodAll enc Try.prog W 0 (fun _ => true) true Try.f3.params.toList args.toList ds p := hA0
  rw [Try.params3] at hA hval
  obtain ⟨v0, vs0, d0, ds0, p0, q0, hargs, rfl, rfl, h0, r0⟩ := trodAll_cons hA
  obtain ⟨v1, vs1, d1, ds1, p1, q1, rfl, rfl, rfl, h1, r1⟩ := trodAll_cons r0
  obtain ⟨rfl, rfl, rfl⟩ := trodAll_nil r1
  obtain rfl : args = #[v0, v1] := by cases args; simp_all
  obtain ⟨rfl, rfl⟩ := trodVars_none hV
  obtain ⟨a0, len0, cap0, rfl⟩ := okWide_slice Try.underlying22 (hval 0 22 v0 rfl rfl)
  have k0 := h0
  have lt0 : ∀ x ∈ p0, x.block < W.heap.size := by obtain ⟨m, hm⟩ := k0; exact DataW.trod_lt m _ _ _ hm
  obtain ⟨z0, w0⟩ : ∃ zs, IsRow .u64 W a0 len0 cap0 zs := by
    obtain ⟨fuel, hf⟩ := h0
    rcases open_ints Try.underlying22 Try.underlying23 (by kernel_rfl) hf with ⟨hcs, _⟩ | ⟨x, l, c, zs, hcs, _, hl, hm, hz, _, hcell, hwz⟩
    · simp [Value.cells] at hcs
      obtain ⟨rfl, rfl, rfl⟩ := hcs
      exact ⟨[], .inl ⟨rfl, rfl, rfl, rfl⟩⟩
    · simp [Value.cells] at hcs
      obtain ⟨rfl, rfl, rfl⟩ := hcs
      exact ⟨zs, .inr ⟨_, rfl, hl, hm, by simpa using hz, hcell, hwz⟩⟩
  obtain ⟨a1, rfl, rfl, rfl, w1⟩ := open_int Try.underlying23 (hval 1 23 v1 rfl rfl) h1
  clear hA0 hval0
  refine (walk a0 len0 cap0 z0 a1 W w0 w1).mono fun e W' ⟨he, bel⟩ => ?_
  subst he
  exact ⟨_, rfl, _, _, _, [], _, [], hW', trodAll_mk1 (shut_bool Try.underlying4 _), (trodAll_cons_mk (Below.trod laidOut (by kernel_rfl) (of_decide_eq_true (by kernel_rfl)) k0 bel lt0) (trodAll_cons_mk (shut_int Try.underlying23 w1) trodAll_mk0)), rfl, bel.frame _, fun h => by cases h⟩

theorem over : Rows.fnIsLiveReadsBackItsWordsRow.holds Try.pinned (OpenSpec.ofChange Rows.fnIsLiveReadsBackItsWordsSpec) :=
  OpenClaim.holds_of_wide 3 Try.f3 rfl rfl rfl rfl rfl rfl rfl ⟨rfl, rfl, rfl, rfl, rfl⟩ rfl rfl rfl rfl rfl (by kernel_rfl) Try.func3 (by kernel_rfl)
    (of_decide_eq_true (by kernel_rfl)) (by unfold Func.isWrapper; first | (rw [if_pos (by decide +kernel)]; kernel_rfl) | (rw [if_neg (by decide +kernel)]; exact ⟨rfl, rfl⟩))
    (fun os started H enc _ => lifted os started H enc)

/-- ████ THE STATEMENT ████ -/
theorem proved : Rows.FnIsLiveReadsBackItsWordsSaid := over
#print axioms proved
end Go.Proofs.Qxb6613288a.fnIsLiveReadsBackItsWords
