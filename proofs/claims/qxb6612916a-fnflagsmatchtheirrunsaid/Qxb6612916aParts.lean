/-
  The contracts of the small functions on the roads of the two laws over the flags' reader.
-/
import Derived.Test.Qxb6612916aFlags
namespace Go.Proofs.Qxb6612916a
open Go.RowKit
open Pl

/-- block b is a formatReader over s that stands at k -/
structure IsR (w : World) (b : Nat) (s : ByteArray) (k : Nat) : Prop where
  lt : b < w.heap.size
  c0 : w.cell? ⟨b, 0, none⟩ = some (.string s)
  c2 : w.cell? ⟨b, 2, none⟩ = some (.int .i64 k)
  z2 : w.frozen? ⟨b, 2, none⟩ = false

/-- block b is a fmtVerb with these flags -/
structure IsV (w : World) (b : Nat) (vb : Int) (f1 f2 f3 f4 f5 : Bool) (wd : Int) : Prop where
  lt : b < w.heap.size
  c0 : w.cell? ⟨b, 0, none⟩ = some (.int .i32 vb)
  c1 : w.cell? ⟨b, 1, none⟩ = some (.bool f1)
  c2 : w.cell? ⟨b, 2, none⟩ = some (.bool f2)
  c3 : w.cell? ⟨b, 3, none⟩ = some (.bool f3)
  c4 : w.cell? ⟨b, 4, none⟩ = some (.bool f4)
  c5 : w.cell? ⟨b, 5, none⟩ = some (.bool f5)
  c6 : w.cell? ⟨b, 6, none⟩ = some (.int .i64 wd)
  z : ∀ o, w.frozen? ⟨b, o, none⟩ = false

/-- w' is w but for what the blocks x and y hold, and for new blocks -/
structure Kept (x y : Nat) (w w' : World) : Prop where
  os : w'.os = w.os
  tape : w'.tape = w.tape
  output : w'.output = w.output
  size : w.heap.size ≤ w'.heap.size
  block : ∀ k, k < w.heap.size → k ≠ x → k ≠ y → w'.heap[k]? = w.heap[k]?

theorem IsR.keep {w w' : World} {b k x y : Nat} {s : ByteArray} (h : IsR w b s k) (g : Kept x y w w') (hx : b ≠ x) (hy : b ≠ y) : IsR w' b s k := by
  have e := g.block b h.lt hx hy
  exact ⟨Nat.lt_of_lt_of_le h.lt g.size, (World.cell?_of_block (w := w) (a := ⟨b, 0, none⟩) e).trans h.c0, (World.cell?_of_block (w := w) (a := ⟨b, 2, none⟩) e).trans h.c2, (World.frozen?_of_block (w := w) (a := ⟨b, 2, none⟩) e).trans h.z2⟩

theorem IsV.keep {w w' : World} {b x y : Nat} {vb wd : Int} {f1 f2 f3 f4 f5 : Bool} (h : IsV w b vb f1 f2 f3 f4 f5 wd) (g : Kept x y w w') (hx : b ≠ x) (hy : b ≠ y) : IsV w' b vb f1 f2 f3 f4 f5 wd := by
  have e := g.block b h.lt hx hy
  exact ⟨Nat.lt_of_lt_of_le h.lt g.size, (World.cell?_of_block (w := w) (a := ⟨b, 0, none⟩) e).trans h.c0, (World.cell?_of_block (w := w) (a := ⟨b, 1, none⟩) e).trans h.c1, (World.cell?_of_block (w := w) (a := ⟨b, 2, none⟩) e).trans h.c2,
    (World.cell?_of_block (w := w) (a := ⟨b, 3, none⟩) e).trans h.c3, (World.cell?_of_block (w := w) (a := ⟨b, 4, none⟩) e).trans h.c4, (World.cell?_of_block (w := w) (a := ⟨b, 5, none⟩) e).trans h.c5,
    (World.cell?_of_block (w := w) (a := ⟨b, 6, none⟩) e).trans h.c6, fun o => (World.frozen?_of_block (w := w) (a := ⟨b, o, none⟩) e).trans (h.z o)⟩

theorem Kept.below {x y B : Nat} {w0 w w' : World} (h : Below B w0 w) (g : Kept x y w w') (hB : B ≤ w.heap.size) (hx : B ≤ x) (hy : B ≤ y) : Below B w0 w' :=
  ⟨g.os.trans h.os, g.tape.trans h.tape, g.output.trans h.output, Nat.le_trans h.size g.size, fun k hk => (g.block k (by omega) (by omega) (by omega)).trans (h.block k hk)⟩

theorem Kept.alloc (x y : Nat) (w : World) (o : Obj) : Kept x y w (w.alloc o) :=
  ⟨rfl, rfl, rfl, by rw [World.size_alloc]; omega, fun k hk _ _ => Below.heap_alloc w o k hk⟩

theorem Kept.drewN (x y : Nat) (w : World) (n : Nat) : Kept x y w (w.drewN n) := ⟨rfl, rfl, rfl, Nat.le_refl _, fun _ _ _ _ => rfl⟩

set_option maxHeartbeats 400000 in
theorem new_r (s : ByteArray) (k : Nat) (w : World) :
    Calls Try.prog 13 #[.string s, .int .i64 k] w fun e w' => e = .returned (.pointer (some ⟨w.heap.size, 0, none⟩)) ∧ IsR w' w.heap.size s k ∧ Kept w.heap.size w.heap.size w w' ∧ w'.heap.size = w.heap.size + 1 := by
  go_enter Try.func13, Try.ntmps13
  go_wp2
  go_ret
  refine ⟨rfl, ⟨by simp, ?_, ?_, ?_⟩, Kept.alloc _ _ _ _, by simp⟩
  all_goals simp

set_option maxHeartbeats 400000 in
theorem new_v (vb wd : Int) (f1 f2 f3 f4 f5 : Bool) (w : World) :
    Calls Try.prog 14 #[.int .i32 vb, .bool f1, .bool f2, .bool f3, .bool f4, .bool f5, .int .i64 wd] w fun e w' => e = .returned (.pointer (some ⟨w.heap.size, 0, none⟩)) ∧ IsV w' w.heap.size vb f1 f2 f3 f4 f5 wd ∧ Kept w.heap.size w.heap.size w w' ∧ w'.heap.size = w.heap.size + 1 := by
  go_enter Try.func14, Try.ntmps14
  go_wp2
  go_ret
  refine ⟨rfl, ⟨by simp, ?_, ?_, ?_, ?_, ?_, ?_, ?_, ?_⟩, Kept.alloc _ _ _ _, by simp⟩
  all_goals simp

set_option maxHeartbeats 400000 in
theorem flags15 (s : ByteArray) (hs : s.size ≤ 1048576) (k : Nat) (hk : k ≤ s.size) (br bv : Nat) (hne : br ≠ bv) (vb wd : Int) (f1 f2 f3 f4 f5 : Bool) (w : World) (hr : IsR w br s k) (hv : IsV w bv vb f1 f2 f3 f4 f5 wd) :
    Calls Try.prog 15 #[.pointer (some ⟨br, 0, none⟩), .pointer (some ⟨bv, 0, none⟩)] w fun e w' => e = .returned (.tuple #[]) ∧ ∃ n : Nat, Run s k n ∧ IsR w' br s n ∧
      IsV w' bv vb (f1 || saw s 35 k n) (f2 || saw s 48 k n) (f3 || saw s 43 k n) (f4 || saw s 45 k n) (f5 || saw s 32 k n) wd ∧ Kept br bv w w' ∧ w'.heap.size = w.heap.size := by
  go_enter Try.func15, Try.ntmps15
  go_wp2_with (go_at_call 23; refine (flags_any s hs k hk br bv hne f1 f2 f3 f4 f5 w hr.c0 hr.c2 hr.z2 hv.z hv.c1 hv.c2 hv.c3 hv.c4 hv.c5).mono ?_; rintro e w' ⟨rfl, n, hrun, hF, g2, u1, u2, u3, u4, u5⟩)
  go_end0
  refine ⟨rfl, n, hrun, ⟨?_, ?_, g2, ?_⟩, ⟨?_, ?_, u1, u2, u3, u4, u5, ?_, ?_⟩, ⟨hF.os, hF.tape, hF.output, by rw [hF.size]; exact Nat.le_refl _, fun k _ h1 h2 => hF.block k h1 h2⟩, hF.size⟩
  · rw [hF.size]; exact hr.lt
  · rw [hF.rcell 0 (by decide)]; exact hr.c0
  · rw [hF.frozen]; exact hr.z2
  · rw [hF.size]; exact hv.lt
  · rw [hF.vcell 0 (by decide)]; exact hv.c0
  · rw [hF.vcell 6 (by decide)]; exact hv.c6
  · intro o; rw [hF.frozen]; exact hv.z o

set_option maxHeartbeats 400000 in
theorem at16 (s : ByteArray) (k b : Nat) (w : World) (hr : IsR w b s k) :
    Calls Try.prog 16 #[.pointer (some ⟨b, 0, none⟩)] w fun e w' => e = .returned (.int .i64 k) ∧ w = w' := by
  have h2 := hr.c2
  go_enter Try.func16, Try.ntmps16
  go_wp2
  go_ret
  exact ⟨rfl, rfl⟩

theorem fl_yes {n x : Nat} (h : ((n : Int) == (x : Int)) = true) (hx : fl x = true) : fl n = true := by
  have : n = x := by have := beq_iff_eq.1 h; omega
  rw [this]; exact hx
theorem fl_no {n : Nat} (h1 : ((n : Int) == 35) = false) (h2 : ((n : Int) == 48) = false) (h3 : ((n : Int) == 43) = false) (h4 : ((n : Int) == 45) = false) (h5 : ((n : Int) == 32) = false) : fl n = false := by
  rw [Bool.eq_false_iff]
  intro hh
  rw [fl_iff] at hh
  simp only [beq_eq_false_iff_ne] at h1 h2 h3 h4 h5
  omega
theorem ret_bool {a b : Bool} (h : a = b) : Ending.returned (.bool a) = .returned (.bool b) := by rw [h]

set_option maxHeartbeats 400000 in
theorem fl17 (n : Nat) (w : World) :
    Calls Try.prog 17 #[.int .u8 (n : Int)] w fun e w' => e = .returned (.bool (fl n)) ∧ w = w' := by
  go_enter Try.func17, Try.ntmps17
  go_wp2
  all_goals go_ret
  · exact ⟨ret_bool (fl_yes (x := 35) (by assumption) rfl).symm, rfl⟩
  · exact ⟨ret_bool (fl_yes (x := 48) (by assumption) rfl).symm, rfl⟩
  · exact ⟨ret_bool (fl_yes (x := 43) (by assumption) rfl).symm, rfl⟩
  · exact ⟨ret_bool (fl_yes (x := 45) (by assumption) rfl).symm, rfl⟩
  · exact ⟨ret_bool (fl_yes (x := 32) (by assumption) rfl).symm, rfl⟩
  · exact ⟨ret_bool (fl_no (by assumption) (by assumption) (by assumption) (by assumption) (by assumption)).symm, rfl⟩

set_option maxHeartbeats 400000 in
theorem flags18 (b : Nat) (vb wd : Int) (f1 f2 f3 f4 f5 : Bool) (w : World) (hv : IsV w b vb f1 f2 f3 f4 f5 wd) :
    Calls Try.prog 18 #[.pointer (some ⟨b, 0, none⟩)] w fun e w' => e = .returned (.tuple #[.bool f1, .bool f2, .bool f3, .bool f4, .bool f5]) ∧ Kept w.heap.size w.heap.size w w' ∧ w'.heap.size = w.heap.size := by
  obtain ⟨_, c0, c1, c2, c3, c4, c5, c6, _⟩ := hv
  go_enter Try.func18, Try.ntmps18
  go_wp2
  go_quiet (fail)
  go_wp2
  refine bodyPost_ret (v := .tuple #[.bool f1, .bool f2, .bool f3, .bool f4, .bool f5]) (by simp [results, Try.results18, go_sem]) rfl ⟨rfl, Kept.drewN _ _ _ _, rfl⟩

set_option maxHeartbeats 400000 in
theorem vw19 (b : Nat) (vb wd : Int) (f1 f2 f3 f4 f5 : Bool) (w : World) (hv : IsV w b vb f1 f2 f3 f4 f5 wd) :
    Calls Try.prog 19 #[.pointer (some ⟨b, 0, none⟩)] w fun e w' => e = .returned (.tuple #[.int .i32 vb, .int .i64 wd]) ∧ Kept w.heap.size w.heap.size w w' ∧ w'.heap.size = w.heap.size := by
  obtain ⟨_, c0, c1, c2, c3, c4, c5, c6, _⟩ := hv
  go_enter Try.func19, Try.ntmps19
  go_wp2
  go_quiet (fail)
  go_wp2
  go_ret2
  exact ⟨rfl, Kept.drewN _ _ _ _, rfl⟩
end Go.Proofs.Qxb6612916a
