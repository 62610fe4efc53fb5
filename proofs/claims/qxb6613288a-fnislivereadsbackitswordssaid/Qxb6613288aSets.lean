/-
  Copies of words, sets over them; the bounds on the input.
-/
import Derived.Test.Qxb6613288aParts
namespace Go.Proofs.Qxb6613288a
open Go.RowKit
set_option maxRecDepth 100000

/-- the slice a holds the words f 0 .. f (n - 1), in a block that is new since w -/
structure Copy (w w' : World) (a : Option Addr) (n : Nat) (f : Nat → Nat) : Prop where
  bel : Below w.heap.size w w'
  row : 0 < n → ∃ g, a = some ⟨g, 0, none⟩ ∧ w.heap.size ≤ g ∧ g < w'.heap.size ∧ ∀ j, j < n → w'.cell? ⟨g, j, none⟩ = some (.int .u64 (f j))

theorem Fill.copy {w wr : World} {n : Nat} {h : Nat → Nat} (F : Fill w wr n h n) : Copy w wr (some ⟨w.heap.size, 0, none⟩) n h :=
  ⟨F.bel, fun _ => ⟨w.heap.size, rfl, Nat.le_refl _, by rw [F.size]; omega, F.cell⟩⟩

/-- new blocks turn nothing -/
theorem Copy.later {w w' w'' : World} {a : Option Addr} {n : Nat} {f : Nat → Nat} (C : Copy w w' a n f) (g : Below w'.heap.size w' w'') : Copy w w'' a n f := by
  refine ⟨C.bel.trans (g.mono C.bel.size), fun hn => ?_⟩
  obtain ⟨b, e, h1, h2, hc⟩ := C.row hn
  exact ⟨b, e, h1, Nat.lt_of_lt_of_le h2 g.size, fun j hj => (g.cell (p := ⟨b, j, none⟩) h2).trans (hc j hj)⟩

theorem Copy.set {w w' w'' : World} {a : Option Addr} {n cap : Nat} {f : Nat → Nat} (C : Copy w w' a n f) (g : Below w'.heap.size w' w'') (hm : n ≤ 65537) (hf : ∀ j, j < n → f j < two64) {s : Nat} (hs : w''.cell? ⟨s, 4, none⟩ = some (.slice a n cap)) : SetIs w'' s n f := by
  refine ⟨hm, hf, a, cap, hs, fun hn => ?_⟩
  obtain ⟨b, e, h1, h2, hc⟩ := (C.later g).row hn
  exact ⟨b, e, hc⟩

theorem SetIs.later {w w' : World} {s n : Nat} {f : Nat → Nat} {B : Nat} (h : SetIs w s n f) (g : Below B w w') (hs : s < B) (hg : ∀ a cap, w.cell? ⟨s, 4, none⟩ = some (.slice a n cap) → ∀ b, a = some ⟨b, 0, none⟩ → b < B) : SetIs w' s n f := by
  obtain ⟨a, cap, hc, hr⟩ := h.slot
  refine ⟨h.max, h.lt, a, cap, (g.cell (p := ⟨s, 4, none⟩) hs).trans hc, fun hn => ?_⟩
  obtain ⟨b, rfl, hj⟩ := hr hn
  exact ⟨b, rfl, fun j hjn => (g.cell (p := ⟨b, j, none⟩) (hg _ cap hc b rfl)).trans (hj j hjn)⟩

set_option maxHeartbeats 400000 in
theorem clone6 (w : World) (a : Option Addr) (n cap : Nat) (f : Nat → Nat) (hn : n ≤ 65536) (h : WordsAt w a n f) :
    Calls Try.prog 6 #[.slice a n cap] w fun e w' => ∃ a' cap', e = .returned (.slice a' n cap') ∧ Copy w w' a' n f := by
  cases a with
  | none =>
    obtain rfl := h.nil rfl
    refine (clone_nil w cap).mono ?_
    rintro e w' ⟨rfl, rfl⟩
    exact ⟨none, 0, rfl, Below.refl _ _, fun h => by omega⟩
  | some x =>
    refine (clone_some w x n cap f hn h).mono ?_
    rintro e w' ⟨rfl, F⟩
    exact ⟨_, _, rfl, F.copy⟩

set_option maxHeartbeats 400000 in
theorem bytes9 (a : Option Addr) (n cap : Nat) (x y : Int) (hn : n ≤ 1048576) (w : World) :
    Calls Try.prog 9 #[.slice a n cap, .int .u64 x, .int .u64 y] w fun e w' => e = .returned (.bool true) ∧ w = w' := by
  go_enter Try.func9, Try.ntmps9
  go_wp2
  go_ret
  exact ⟨rfl, rfl⟩
set_option maxHeartbeats 400000 in
theorem bytesNot9 (a : Option Addr) (n cap : Nat) (x y : Int) (hn : 1048576 < n) (hm : n ≤ maxLen) (w : World) :
    Calls Try.prog 9 #[.slice a n cap, .int .u64 x, .int .u64 y] w fun e w' => e = .returned (.bool false) ∧ w = w' := by
  unfold maxLen at hm
  go_enter Try.func9, Try.ntmps9
  go_wp2
  go_ret
  exact ⟨rfl, rfl⟩
set_option maxHeartbeats 400000 in
theorem bytes5 (a : Option Addr) (n cap : Nat) (x : Int) (hn : n ≤ 1048576) (w : World) :
    Calls Try.prog 5 #[.slice a n cap, .int .u64 x] w fun e w' => e = .returned (.bool true) ∧ w = w' := by
  go_enter Try.func5, Try.ntmps5
  go_wp2
  go_ret
  exact ⟨rfl, rfl⟩
set_option maxHeartbeats 400000 in
theorem bytesNot5 (a : Option Addr) (n cap : Nat) (x : Int) (hn : 1048576 < n) (hm : n ≤ maxLen) (w : World) :
    Calls Try.prog 5 #[.slice a n cap, .int .u64 x] w fun e w' => e = .returned (.bool false) ∧ w = w' := by
  unfold maxLen at hm
  go_enter Try.func5, Try.ntmps5
  go_wp2
  go_ret
  exact ⟨rfl, rfl⟩
end Go.Proofs.Qxb6613288a
