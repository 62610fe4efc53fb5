/-
  The contracts of the small functions on the roads of the two laws over isLive; a row that is filled.
-/
import Derived.Test.Qxb6613288aRows
import Derived.Test.Qxb6613288aPlain
import Derived.WalkKit
import Derived.WalkSpells
import Derived.WalkLawsBesides
import Derived.Deep.LoopGhost
import Derived.Deep.QuietTactic
import Derived.BigQuiet
import Derived.Laws.OwnMore
import Derived.Deep.OwnRows
import Derived.Outline
namespace Go.Proofs.Qxb6613288a
open Go.RowKit
set_option maxRecDepth 100000

/-- the words that came in -/
structure WordsAt (w : World) (a : Option Addr) (len : Nat) (f : Nat → Nat) : Prop where
  nil : a = none → len = 0
  lt : ∀ j, j < len → f j < two64
  at' : 0 < len → ∃ b off, a = some ⟨b, off, none⟩ ∧ b < w.heap.size ∧ ∀ j, j < len → w.cell? ⟨b, off + j, none⟩ = some (.int .u64 (f j))

/-- block s is a liveSet of the words f 0 .. f (len - 1) -/
structure SetIs (w : World) (s len : Nat) (f : Nat → Nat) : Prop where
  max : len ≤ 65537
  lt : ∀ j, j < len → f j < two64
  slot : ∃ a cap, w.cell? ⟨s, 4, none⟩ = some (.slice a len cap) ∧ (0 < len → ∃ g, a = some ⟨g, 0, none⟩ ∧ ∀ j, j < len → w.cell? ⟨g, j, none⟩ = some (.int .u64 (f j)))

theorem SetIs.drewN {w : World} {s len : Nat} {f : Nat → Nat} (h : SetIs w s len f) (n : Nat) : SetIs (w.drewN n) s len f := ⟨h.max, h.lt, h.slot⟩

set_option maxHeartbeats 400000 in
theorem live10 (s len : Nat) (f : Nat → Nat) (id : Nat) (hid : id < two64) (w : World) (h : SetIs w s len f) :
    Calls Try.prog 10 #[.pointer (some ⟨s, 0, none⟩), .int .u64 id] w fun e w' => e = .returned (.tuple #[.bool (liveB f len id), .nilIface]) ∧ w = w' := by
  obtain ⟨a, cap, hs, hg⟩ := h.slot
  have hm := h.max
  unfold two64 at hid
  by_cases hlt : id / 64 < len
  · obtain ⟨g, rfl, hc⟩ := hg (by omega)
    have hck := hc (id / 64) hlt
    have hb := bit_test (f (id / 64)) (id % 64) (h.lt _ hlt) (by omega)
    have hlt' : (id : Int) / 64 < (len : Int) := by omega
    have HL : Hid (liveB f len id = (f (id / 64)).testBit (id % 64)) := liveB_in hlt
    clear hc hg h
    go_enter Try.func10, Try.ntmps10
    go_wp2
    exact bodyPost_ret (v := .tuple #[.bool ((f (id / 64)).testBit (id % 64)), .nilIface]) (by simp [results, Try.results10, go_sem]) rfl ⟨by rw [HL.out], rfl⟩
  · have hlt' : ¬ (id : Int) / 64 < (len : Int) := by omega
    have HL : Hid (liveB f len id = false) := liveB_out hlt
    clear hg h
    go_enter Try.func10, Try.ntmps10
    go_wp2
    exact bodyPost_ret (v := .tuple #[.bool false, .nilIface]) (by simp [results, Try.results10, go_sem]) rfl ⟨by rw [HL.out], rfl⟩

set_option maxHeartbeats 400000 in
theorem live8 (s len : Nat) (f : Nat → Nat) (id : Nat) (hid : id < two64) (w : World) (h : SetIs w s len f) :
    Calls Try.prog 8 #[.pointer (some ⟨s, 0, none⟩), .int .u64 id] w fun e w' => e = .returned (.tuple #[.bool (liveB f len id), .bool false]) ∧ ∃ n, w' = w.drewN n := by
  have H := live10 s len f id hid w h
  clear h hid
  go_enter Try.func8, Try.ntmps8
  go_wp2_with (go_at_call 10; refine H.mono ?_; rintro e w' ⟨rfl, rfl⟩)
  go_quiet (fail)
  go_wp2
  go_ret2
  exact ⟨rfl, _, rfl⟩

set_option maxHeartbeats 400000 in
theorem new7 (a : Option Addr) (len cap : Nat) (w : World) :
    Calls Try.prog 7 #[.slice a len cap] w fun e w' => e = .returned (.pointer (some ⟨w.heap.size, 0, none⟩)) ∧ Below w.heap.size w w' ∧ w'.heap.size = w.heap.size + 1 ∧ w'.cell? ⟨w.heap.size, 4, none⟩ = some (.slice a len cap) := by
  go_enter Try.func7, Try.ntmps7
  go_wp2
  go_ret
  exact ⟨rfl, (Below.refl _ _).alloc (Nat.le_refl _) _, by simp, by simp⟩

/-- THE ROW THAT IS FILLED: block g, the last of its world w's successor, holds h 0 .. h (k - 1) so far. -/
structure Fill (w wr : World) (n : Nat) (h : Nat → Nat) (k : Nat) : Prop where
  cell : ∀ j, j < k → wr.cell? ⟨w.heap.size, j, none⟩ = some (.int .u64 (h j))
  all : ∀ j, j < n → ∃ v, wr.cell? ⟨w.heap.size, j, none⟩ = some v
  fz : ∀ j, wr.frozen? ⟨w.heap.size, j, none⟩ = false
  bel : Below w.heap.size w wr
  size : wr.heap.size = w.heap.size + 1

theorem Fill.start (w : World) (n : Nat) (h : Nat → Nat) : Fill w (w.alloc (.cells (madeCells #[.int .u64 0] n) 23)) n h 0 := by
  refine ⟨fun j hj => by omega, fun j hj => ?_, fun j => World.frozen?_alloc_new _ _ _ _, (Below.refl _ _).alloc (Nat.le_refl _) _, by simp⟩
  rw [World.cell?_alloc_new]
  have hl : (madeCells #[.int .u64 0] n).size = n := by rw [← Array.length_toList, toList_madeCells_one]; simp
  exact ⟨_, Array.getElem?_eq_getElem (by omega)⟩

theorem Fill.step {w wr : World} {n : Nat} {h : Nat → Nat} {k : Nat} (F : Fill w wr n h k) (hk : k < n) : Fill w (wr.setCell ⟨w.heap.size, k, none⟩ (.int .u64 (h k))) n h (k + 1) := by
  obtain ⟨v, hv⟩ := F.all k hk
  refine ⟨fun j hj => ?_, fun j hj => ?_, fun j => by rw [World.frozen?_setCell]; exact F.fz j, F.bel.setCell (Nat.le_refl _) _, by rw [World.size_setCell]; exact F.size⟩
  · by_cases e : j = k
    · subst e
      exact World.cell?_setCell_same _ _ _ hv
    · rw [World.cell?_setCell_other _ _ _ _ (by simp <;> omega)]
      exact F.cell j (by omega)
  · obtain ⟨v', hv'⟩ := F.all j hj
    by_cases e : j = k
    · subst e
      exact ⟨_, World.cell?_setCell_same _ _ _ hv'⟩
    · exact ⟨v', by rw [World.cell?_setCell_other _ _ _ _ (by simp <;> omega)]; exact hv'⟩

theorem info23 : (Try.prog.info? 23).map (fun i => (i.zero, i.size, i.bytes)) = some (some (.int .u64 0), 1, 8) := by kernel_rfl

set_option maxHeartbeats 400000 in
theorem clone_nil (w : World) (cap : Nat) : Calls Try.prog 6 #[.slice none 0 cap] w fun e w' => e = .returned (.slice none 0 0) ∧ w = w' := by
  have hnn := fun w => Lib.run_eql_slice_nil (P := Try.prog) w 22 23 none 0 cap 0 0 Try.underlying22
  go_enter Try.func6, Try.ntmps6
  go_wp2
  go_ret
  exact ⟨rfl, rfl⟩

set_option maxHeartbeats 400000 in
theorem clone_some (w : World) (x : Addr) (n cap : Nat) (f : Nat → Nat) (hn : n ≤ 65536) (h : WordsAt w (some x) n f) :
    Calls Try.prog 6 #[.slice (some x) n cap] w fun e w' => e = .returned (.slice (some ⟨w.heap.size, 0, none⟩) n n) ∧ Fill w w' n f n := by
  have hnn := fun w => Lib.run_eql_slice_nil (P := Try.prog) w 22 23 (some x) n cap 0 0 Try.underlying22
  have hmk := run_make_row' (P := Try.prog) 22 23 (.int .u64 0) 8 Try.underlying22 info23 rfl .i64 .i64 n (by omega) (by omega)
  go_enter Try.func6, Try.ntmps6
  go_wp2
  go_loopg [4] n (fun q i wr => ∃ k, q = n - k ∧ k ≤ n ∧ i = .int .i64 (k : Nat) ∧ Fill w wr n f k)
  case atStart => exact ⟨0, rfl, Nat.zero_le _, rfl, Fill.start w n f⟩
  case round =>
    obtain ⟨k, rfl, hk, rfl, hF⟩ := hrel
    by_cases hlt : k < n
    · obtain ⟨b, off, e, hb, hc⟩ := h.at' (by omega)
      cases e
      have hck : wr.cell? ⟨b, off + k, none⟩ = some (.int .u64 (f k)) := (hF.bel.cell (p := ⟨b, off + k, none⟩) hb).trans (hc k hlt)
      obtain ⟨v, hv⟩ := hF.all k hlt
      have hz := hF.fz k
      have hlt' : (k : Int) < (n : Int) := by omega
      clear hc h
      go_wp2
      go_roundg (n - (k + 1))
      case measure => omega
      case rel => exact ⟨k + 1, rfl, by omega, by go_num, hF.step hlt⟩
    · obtain rfl : k = n := by omega
      have hlt' : ¬ (k : Int) < (k : Int) := by omega
      go_wp2
      go_ret
      exact ⟨rfl, hF⟩
end Go.Proofs.Qxb6613288a
