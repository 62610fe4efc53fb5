/-
  The contracts of the small functions on the road of FnVersionXorLinearAndFirstByteOnly; make and copy.
-/
import Derived.Test.Qxb6613266aRows
import Derived.WalkKit
import Derived.WalkSpells
import Derived.WalkLawsBesides
import Derived.LoopTactic
import Derived.Laws.IdiomCopy
import Derived.Laws.OwnMore
import Derived.Laws.BitsAllLaws
import Derived.Deep.OwnRows
import Derived.Outline
namespace Go.Proofs.Qxb6613266a
open Go.RowKit
set_option maxRecDepth 100000

/-! ### the plain law -/
def ver (x : Nat) : Nat := x / 8 % 8

theorem ver_xor (a m : Nat) : ver (a ^^^ m) = ver a ^^^ ver m := by
  unfold ver
  rw [show (8 : Nat) = 2 ^ 3 from rfl, Nat.xor_div_two_pow, Nat.xor_mod_two_pow]

theorem ver_lt (x : Nat) : ver x < 8 := by unfold ver; omega
theorem xor_lt {a m : Nat} (ha : a < 256) (hm : m < 256) : a ^^^ m < 256 := Nat.xor_lt_two_pow (n := 8) ha hm

/-! ### the walks -/
theorem ret_int {k : IntKind} {a b : Int} (h : a = b) : Ending.returned (.int k a) = .returned (.int k b) := by rw [h]

set_option maxHeartbeats 400000 in
theorem version6 (b o len cap : Nat) (h1 : 1 ≤ len) (x : Nat) (hx : x < 256) (w : World) (hc : w.cell? ⟨b, o, none⟩ = some (.int .u8 x)) :
    Calls Try.prog 6 #[.slice (some ⟨b, o, none⟩) len cap] w fun e w' => e = .returned (.int .u8 (ver x)) ∧ w = w' := by
  have h1' : (0 : Int) < (len : Int) := by omega
  go_enter Try.func6, Try.ntmps6
  go_wp2
  go_ret
  exact ⟨ret_int (by unfold ver; simp), rfl⟩

set_option maxHeartbeats 400000 in
theorem own5 (x : Nat) (hx : x < 256) (w : World) :
    Calls Try.prog 5 #[.int .u8 x] w fun e w' => e = .returned (.int .u8 (ver x)) ∧ w = w' := by
  go_enter Try.func5, Try.ntmps5
  go_wp2
  go_loop [3] (fun i => ∃ m : Nat, i = .int .i64 m ∧ m ≤ x ∧ m % 64 = x % 64) (fun i => (intOf i).toNat)
  case atStart => exact ⟨x, rfl, Nat.le_refl _, rfl⟩
  case round =>
    obtain ⟨m, rfl, hm, hmod⟩ := hrel
    have HM : Hid (m % 64 = x % 64) := hmod
    clear hmod
    by_cases hlt : 64 ≤ m
    · have hlt' : (64 : Int) ≤ (m : Int) := by omega
      go_wp2
      go_round
      case rel => exact ⟨m - 64, by go_num, by omega, by have := HM.out; omega⟩
      case measure => simp [intOf]; omega
    · have hlt' : ¬ (64 : Int) ≤ (m : Int) := by omega
      go_wp2
      go_loop [3, 4] (fun i v => ∃ q u : Nat, i = .int .i64 q ∧ v = .int .u8 u ∧ q + 8 * u = m) (fun i _ => (intOf i).toNat)
      case atStart => exact ⟨m, 0, rfl, rfl, by omega⟩
      case round =>
        obtain ⟨q, u, rfl, rfl, hq⟩ := hrel
        have HQ : Hid (q + 8 * u = m) := hq
        have hu : (u : Int) ≤ 8 := by omega
        have hqm : q ≤ m := by omega
        clear hq
        by_cases hlt2 : 8 ≤ q
        · have hlt3 : (8 : Int) ≤ (q : Int) := by omega
          go_wp2
          go_round
          case rel => exact ⟨q - 8, u + 1, by go_num, by go_num, by have := HQ.out; omega⟩
          case measure => simp [intOf]; omega
        · have hlt3 : ¬ (8 : Int) ≤ (q : Int) := by omega
          go_wp2
          go_ret
          exact ⟨ret_int (by have := HQ.out; have := HM.out; unfold ver; omega), rfl⟩

/-! ### worlds -/
structure Kept (w w' : World) : Prop where
  os : w'.os = w.os
  tape : w'.tape = w.tape
  output : w'.output = w.output
  size : w.heap.size ≤ w'.heap.size
  block : ∀ k, k < w.heap.size → w'.heap[k]? = w.heap[k]?

theorem Kept.below {w w' : World} (h : Kept w w') : Below w.heap.size w w' := ⟨h.os, h.tape, h.output, h.size, h.block⟩

/-- block g holds n bytes, f 0, f 1 .. -/
structure Row8 (w : World) (g n : Nat) (f : Nat → Nat) : Prop where
  lt : g < w.heap.size
  cell : ∀ j, j < n → w.cell? ⟨g, j, none⟩ = some (.int .u8 (f j))
  fz : ∀ j, w.frozen? ⟨g, j, none⟩ = false

theorem info5 : (Try.prog.info? 5).map (fun i => (i.zero, i.size, i.bytes)) = some (some (.int .u8 0), 1, 1) := by kernel_rfl
theorem size5 : (Try.prog.info? 5).map (·.size) = some 1 := by kernel_rfl

theorem setCells_heap (b : Nat) : ∀ (vs : List Value) (o : Nat) (w : World), (w.setCells b o vs).heap.size = w.heap.size ∧ (w.setCells b o vs).os = w.os ∧ (w.setCells b o vs).tape = w.tape ∧ (w.setCells b o vs).output = w.output ∧ ∀ k, k ≠ b → (w.setCells b o vs).heap[k]? = w.heap[k]?
  | [], _, w => ⟨rfl, rfl, rfl, rfl, fun _ _ => rfl⟩
  | v :: vs, o, w => by
    obtain ⟨h1, h2, h3, h4, h5⟩ := setCells_heap b vs (o + 1) (w.setCell ⟨b, o, none⟩ v)
    refine ⟨?_, ?_, ?_, ?_, fun k hk => ?_⟩
    · show ((w.setCell ⟨b, o, none⟩ v).setCells b (o + 1) vs).heap.size = _
      rw [h1, World.size_setCell]
    · exact h2
    · exact h3
    · exact h4
    · show ((w.setCell ⟨b, o, none⟩ v).setCells b (o + 1) vs).heap[k]? = _
      rw [h5 k hk]
      exact Below.heap_setCell _ _ _ _ hk

/-- 'c := make([]byte, n); copy(c, b)' -/
theorem made_copy (w : World) (b off n cap : Nat) (f : Nat → Nat) (hb : b < w.heap.size) (hc : ∀ j, j < n → w.cell? ⟨b, off + j, none⟩ = some (.int .u8 (f j))) :
    ∃ w2, (∀ ty, (Builtin.copy_ #[22, 22] ty #[.slice (some ⟨w.heap.size, 0, none⟩) n n, .slice (some ⟨b, off, none⟩) n cap]).run Try.prog (w.alloc (.cells (madeCells #[.int .u8 0] n) 5)) = .ok (.int .i64 n) w2) ∧
      Row8 w2 w.heap.size n f ∧ Kept w w2 ∧ w2.heap.size = w.heap.size + 1 := by
  have hsome : ∀ j, j < n → ((w.alloc (.cells (madeCells #[.int .u8 0] n) 5)).cell? ⟨w.heap.size, 0 + j, none⟩).isSome = true := by
    intro j hj
    rw [Nat.zero_add, World.cell?_alloc_new]
    have hl : (madeCells #[.int .u8 0] n).size = n := by rw [← Array.length_toList, toList_madeCells_one]; simp
    rw [Array.getElem?_eq_getElem (by omega)]
    rfl
  have hlen : ((List.range n).map fun j => Value.int .u8 (f j : Int)).length = n := by simp
  obtain ⟨g1, g2, g3, g4, g5⟩ := setCells_heap w.heap.size ((List.range n).map fun j => Value.int .u8 (f j : Int)) 0 (w.alloc (.cells (madeCells #[.int .u8 0] n) 5))
  refine ⟨(w.alloc (.cells (madeCells #[.int .u8 0] n) 5)).setCells w.heap.size 0 ((List.range n).map fun j => Value.int .u8 (f j : Int)), fun ty => ?_, ⟨by rw [g1]; simp, fun j hj => ?_, fun j => ?_⟩, ⟨g2, g3, g4, by rw [g1]; simp, fun k hk => ?_⟩, by rw [g1]; simp⟩
  · rw [run_copy_cells (P := Try.prog) (w.alloc (.cells (madeCells #[.int .u8 0] n) 5)) 22 22 ty 5 w.heap.size 0 n n ⟨b, off, none⟩ n cap ((List.range n).map fun j => Value.int .u8 (f j : Int)) Try.underlying22 size5 (by rw [hlen]; exact (Nat.min_self n).symm) ?_ (fun j hj => hsome j (by omega)) (fun j _ => World.frozen?_alloc_new _ _ _ _) ?_]
    · rw [hlen]; rfl
    · intro j v hv
      have hj : j < n := by
        have := (List.getElem?_eq_some_iff.1 hv).1
        omega
      rw [show (⟨b, off, none⟩ : Addr).add j = ⟨b, off + j, none⟩ from by unfold Addr.add; split <;> simp_all, World.cell?_alloc_old _ _ _ (by show b ≠ w.heap.size; omega), hc j hj]
      simp [List.getElem?_range hj] at hv
      rw [hv]
    · intro v hv
      obtain ⟨j, _, rfl⟩ := List.mem_map.1 hv
      rfl
  · have := World.cell?_setCells_in w.heap.size ((List.range n).map fun j => Value.int .u8 (f j : Int)) 0 (w.alloc (.cells (madeCells #[.int .u8 0] n) 5)) (fun j hj => hsome j (by omega)) j (by omega)
    rw [Nat.zero_add] at this
    rw [this]
    simp
  · rw [World.frozen?_setCells]
    exact World.frozen?_alloc_new _ _ _ _
  · rw [g5 k (by omega)]
    exact Below.heap_alloc w _ k hk
end Go.Proofs.Qxb6613266a
