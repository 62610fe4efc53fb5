/-
  The walk of FnVersionXorLinearAndFirstByteOnly.
-/
import Derived.Test.Qxb6613266aParts
namespace Go.Proofs.Qxb6613266a
open Go.RowKit
set_option maxRecDepth 100000

set_option maxHeartbeats 400000 in
theorem bytes4 (a : Option Addr) (n cap : Nat) (m i : Int) (hn : n ≤ 1048576) (w : World) :
    Calls Try.prog 4 #[.slice a n cap, .int .u8 m, .int .i64 i] w fun e w' => e = .returned (.bool true) ∧ w = w' := by
  go_enter Try.func4, Try.ntmps4
  go_wp2
  go_ret
  exact ⟨rfl, rfl⟩

set_option maxHeartbeats 400000 in
theorem bytesNot4 (a : Option Addr) (n cap : Nat) (m i : Int) (hn : 1048576 < n) (hm : n ≤ maxLen) (w : World) :
    Calls Try.prog 4 #[.slice a n cap, .int .u8 m, .int .i64 i] w fun e w' => e = .returned (.bool false) ∧ w = w' := by
  unfold maxLen at hm
  go_enter Try.func4, Try.ntmps4
  go_wp2
  go_ret
  exact ⟨rfl, rfl⟩

set_option maxHeartbeats 400000 in
theorem law_out (a : Option Addr) (n cap : Nat) (m i : Int) (hm : n ≤ maxLen) (h : 65536 < n ∨ n = 0 ∨ i < 1 ∨ (n : Int) < i) (w : World) :
    Calls Try.prog 3 #[.slice a n cap, .int .u8 m, .int .i64 i] w fun e w' => e = .returned (.bool true) ∧ Below w.heap.size w w' := by
  by_cases h1 : 1048576 < n
  · go_enter Try.func3, Try.ntmps3
    go_wp2_with (go_at_call 4; refine (bytesNot4 a n cap m i h1 hm _).mono ?_; rintro e w' ⟨rfl, rfl⟩)
    go_ret
    exact ⟨rfl, Below.refl _ _⟩
  · unfold maxLen at hm
    by_cases h2 : 65536 < n
    · go_enter Try.func3, Try.ntmps3
      go_wp2_with (go_at_call 4; refine (bytes4 a n cap m i (by omega) _).mono ?_; rintro e w' ⟨rfl, rfl⟩)
      go_ret
      exact ⟨rfl, Below.refl _ _⟩
    · by_cases h3 : n = 0
      · subst h3
        clear h
        go_enter Try.func3, Try.ntmps3
        go_wp2_with (go_at_call 4; refine (bytes4 a 0 cap m i (by omega) _).mono ?_; rintro e w' ⟨rfl, rfl⟩)
        go_ret
        exact ⟨rfl, Below.refl _ _⟩
      · have h3' : ((n : Int) == 0) = false := by simp; omega
        by_cases h4 : i < 1
        · clear h
          go_enter Try.func3, Try.ntmps3
          go_wp2_with (go_at_call 4; refine (bytes4 a n cap m i (by omega) _).mono ?_; rintro e w' ⟨rfl, rfl⟩)
          go_ret
          exact ⟨rfl, Below.refl _ _⟩
        · have h5 : (n : Int) < i := by omega
          clear h
          go_enter Try.func3, Try.ntmps3
          go_wp2_with (go_at_call 4; refine (bytes4 a n cap m i (by omega) _).mono ?_; rintro e w' ⟨rfl, rfl⟩)
          go_ret
          exact ⟨rfl, Below.refl _ _⟩

set_option maxHeartbeats 1000000 in
theorem law_main (b off n cap : Nat) (f : Nat → Nat) (hf : f 0 < 256) (m : Nat) (hm : m < 256) (i : Nat) (hi : 1 ≤ i) (hin : i ≤ n) (hn : n ≤ 65536) (w : World) (hb : b < w.heap.size) (hc : ∀ j, j < n → w.cell? ⟨b, off + j, none⟩ = some (.int .u8 (f j))) :
    Calls Try.prog 3 #[.slice (some ⟨b, off, none⟩) n cap, .int .u8 m, .int .i64 i] w fun e w' => e = .returned (.bool true) ∧ Below w.heap.size w w' := by
  have hmk := run_make_row' (P := Try.prog) 22 5 (.int .u8 0) 1 Try.underlying22 info5 rfl .i64 .i64 n (by omega) (by omega)
  have hnn := fun w => run_neq_slice_nil_any (P := Try.prog) w 22 5 (some ⟨b, off, none⟩) n cap 0 0 Try.underlying22
  obtain ⟨w2, hcp, r2, k2, z2⟩ := made_copy w b off n cap f hb hc
  obtain ⟨w3, hcp3, r3, k3, z3⟩ := made_copy w2 w.heap.size 0 n n f r2.lt (fun j hj => by rw [Nat.zero_add]; exact r2.cell j hj)
  have Z2 : Hid (w2.heap.size = w.heap.size + 1) := z2
  have Z3 : Hid (w3.heap.size = w2.heap.size + 1) := z3
  have hx := u8_xor_nat (f 0) m hf hm
  have hx2 : bits .xor .u8 (ver (f 0) : Int) (ver m : Int) = (ver (f 0 ^^^ m) : Int) := by
    rw [u8_xor_nat (ver (f 0)) (ver m) (by have := ver_lt (f 0); omega) (by have := ver_lt m; omega), ver_xor]
  have d2 := r2.cell 0 (by omega)
  have d3 := r3.cell 0 (by omega)
  have d23 : w3.cell? ⟨w.heap.size, 0, none⟩ = some (.int .u8 (f 0)) := (World.cell?_of_block (w := w2) (a := ⟨w.heap.size, 0, none⟩) (k3.block w.heap.size r2.lt)).trans d2
  have fz3 := r3.fz 0
  have n0 : ((n : Int) == 0) = false := by simp; omega
  have i1 : (1 : Int) ≤ (i : Int) := by omega
  have i2 : (i : Int) ≤ (n : Int) := by omega
  have i3 : (0 : Int) < (n : Int) := by omega
  have hxl := xor_lt hf hm
  clear z2 z3 r2 r3 hc hb
  go_enter Try.func3, Try.ntmps3
  go_wp2_with (first
    | (go_at_call 4; refine (bytes4 _ n cap m i (by omega) _).mono ?_; rintro e w' ⟨rfl, rfl⟩)
    | (go_at_call 5; refine (own5 (f 0) hf _).mono ?_; rintro e w' ⟨rfl, rfl⟩))
  have hne : w.heap.size ≠ w2.heap.size := by have := Z2.out; omega
  have D1 : (w3.setCell ⟨w2.heap.size, 0, none⟩ (.int .u8 ((f 0 ^^^ m : Nat) : Int))).cell? ⟨w.heap.size, 0, none⟩ = some (.int .u8 (f 0)) := by
    rw [World.cell?_setCell_other _ _ _ _ (by simp <;> omega)]
    exact d23
  have D2 : (w3.setCell ⟨w2.heap.size, 0, none⟩ (.int .u8 ((f 0 ^^^ m : Nat) : Int))).cell? ⟨w2.heap.size, 0, none⟩ = some (.int .u8 ((f 0 ^^^ m : Nat) : Int)) := World.cell?_setCell_same _ _ _ d3
  have bel : Below w.heap.size w (w3.setCell ⟨w2.heap.size, 0, none⟩ (.int .u8 ((f 0 ^^^ m : Nat) : Int))) :=
    (k2.below.trans ((k3.below).mono k2.size)).setCell (by show w.heap.size ≤ w2.heap.size; exact k2.size) _
  refine (version6 w.heap.size 0 n n (by omega) (f 0) hf _ D1).mono ?_
  rintro e w' ⟨rfl, rfl⟩
  go_wp2_with fail
  refine (version6 w.heap.size 0 i n (by omega) (f 0) hf _ D1).mono ?_
  rintro e w' ⟨rfl, rfl⟩
  go_wp2_with fail
  refine (version6 w2.heap.size 0 n n (by omega) (f 0 ^^^ m) hxl _ D2).mono ?_
  rintro e w' ⟨rfl, rfl⟩
  go_wp2_with fail
  have D4 : ((w3.setCell ⟨w2.heap.size, 0, none⟩ (.int .u8 ((f 0 ^^^ m : Nat) : Int))).alloc (.cells #[.int .u8 m] 5)).cell? ⟨w3.heap.size, 0, none⟩ = some (.int .u8 m) := by
    have := World.cell?_alloc_new (w3.setCell ⟨w2.heap.size, 0, none⟩ (.int .u8 ((f 0 ^^^ m : Nat) : Int))) #[.int .u8 m] 5 0
    rw [World.size_setCell] at this
    rw [this]
    rfl
  refine (version6 w3.heap.size 0 1 1 (by omega) m hm _ D4).mono ?_
  rintro e w' ⟨rfl, rfl⟩
  go_wp2_with fail
  go_ret
  exact ⟨rfl, bel.alloc (by rw [World.size_setCell]; exact Nat.le_trans k2.size k3.size) _⟩
end Go.Proofs.Qxb6613266a
