/-
  The walk of FnFlagsMatchTheirRun.
-/
import Derived.Test.Qxb6612916aParts
namespace Go.Proofs.Qxb6612916a
open Go.RowKit
open Pl

set_option maxRecDepth 100000 in
set_option maxHeartbeats 400000 in
theorem bytes12 (s : ByteArray) (a1 vb wd : Int) (f1 f2 f3 f4 f5 : Bool) (hs : s.size ≤ 1048576) (w : World) :
    Calls Try.prog 12 #[.string s, .int .i64 a1, .int .i32 vb, .bool f1, .bool f2, .bool f3, .bool f4, .bool f5, .int .i64 wd] w fun e w' => e = .returned (.bool true) ∧ w = w' := by
  go_enter Try.func12, Try.ntmps12
  go_wp2
  go_ret
  exact ⟨rfl, rfl⟩

set_option maxRecDepth 100000 in
set_option maxHeartbeats 400000 in
theorem match_long (s : ByteArray) (a1 vb wd : Int) (f1 f2 f3 f4 f5 : Bool) (hs : ¬ s.size ≤ 1048576) (hm : s.size ≤ maxLen) (w : World) :
    Calls Try.prog 5 #[.string s, .int .i64 a1, .int .i32 vb, .bool f1, .bool f2, .bool f3, .bool f4, .bool f5, .int .i64 wd] w fun e w' => e = .returned (.bool true) ∧ Below w.heap.size w w' := by
  unfold maxLen at hm
  have hs' : 1048576 < s.size := by omega
  clear hs
  go_enter Try.func5, Try.ntmps5
  go_wp2
  go_ret
  exact ⟨rfl, Below.refl _ _⟩

set_option maxRecDepth 100000 in
set_option maxHeartbeats 400000 in
theorem match_at (s : ByteArray) (a1 vb wd : Int) (f1 f2 f3 f4 f5 : Bool) (hs : s.size ≤ 1048576) (h : a1 < 0 ∨ (0 ≤ a1 ∧ (s.size : Int) < a1)) (w : World) :
    Calls Try.prog 5 #[.string s, .int .i64 a1, .int .i32 vb, .bool f1, .bool f2, .bool f3, .bool f4, .bool f5, .int .i64 wd] w fun e w' => e = .returned (.bool true) ∧ Below w.heap.size w w' := by
  rcases h with h | ⟨h1, h2⟩
  · go_enter Try.func5, Try.ntmps5
    go_wp2
    go_ret
    exact ⟨rfl, Below.refl _ _⟩
  · go_enter Try.func5, Try.ntmps5
    go_wp2
    go_ret
    exact ⟨rfl, Below.refl _ _⟩

/-- what the law's own loop has gathered when it stands at j -/
structure AtM (s : ByteArray) (p e : Nat) (f1 f2 f3 f4 f5 : Bool) (x1 x2 x3 x4 x5 i : Value) (j : Nat) : Prop where
  lo : p ≤ j
  hi : j ≤ e
  i : i = .int .i64 j
  x1 : x1 = .bool (f1 || saw s 35 p j)
  x2 : x2 = .bool (f2 || saw s 48 p j)
  x3 : x3 = .bool (f3 || saw s 43 p j)
  x4 : x4 = .bool (f4 || saw s 45 p j)
  x5 : x5 = .bool (f5 || saw s 32 p j)

theorem AtM.start (s : ByteArray) (p e : Nat) (f1 f2 f3 f4 f5 : Bool) (h : p ≤ e) : AtM s p e f1 f2 f3 f4 f5 (.bool f1) (.bool f2) (.bool f3) (.bool f4) (.bool f5) (.int .i64 p) p :=
  ⟨Nat.le_refl _, h, rfl, by rw [saw_same, Bool.or_false], by rw [saw_same, Bool.or_false], by rw [saw_same, Bool.or_false], by rw [saw_same, Bool.or_false], by rw [saw_same, Bool.or_false]⟩

theorem AtM.mk' {s : ByteArray} {p e : Nat} {f1 f2 f3 f4 f5 : Bool} {j : Nat} (h1 : p ≤ j) (h2 : j < e) (b1 b2 b3 b4 b5 : Bool)
    (e1 : b1 = (f1 || saw s 35 p j || bt s j == 35)) (e2 : b2 = (f2 || saw s 48 p j || bt s j == 48)) (e3 : b3 = (f3 || saw s 43 p j || bt s j == 43)) (e4 : b4 = (f4 || saw s 45 p j || bt s j == 45)) (e5 : b5 = (f5 || saw s 32 p j || bt s j == 32)) :
    AtM s p e f1 f2 f3 f4 f5 (.bool b1) (.bool b2) (.bool b3) (.bool b4) (.bool b5) (.int .i64 ((j : Int) + 1)) (j + 1) := by
  refine ⟨by omega, by omega, rfl, ?_, ?_, ?_, ?_, ?_⟩
  · rw [saw_succ h1, ← Bool.or_assoc, e1]
  · rw [saw_succ h1, ← Bool.or_assoc, e2]
  · rw [saw_succ h1, ← Bool.or_assoc, e3]
  · rw [saw_succ h1, ← Bool.or_assoc, e4]
  · rw [saw_succ h1, ← Bool.or_assoc, e5]

set_option maxRecDepth 100000 in
set_option maxHeartbeats 2000000 in
theorem match_main (s : ByteArray) (p : Nat) (vb wd : Int) (f1 f2 f3 f4 f5 : Bool) (hs : s.size ≤ 1048576) (hp : p ≤ s.size) (w : World) :
    Calls Try.prog 5 #[.string s, .int .i64 p, .int .i32 vb, .bool f1, .bool f2, .bool f3, .bool f4, .bool f5, .int .i64 wd] w fun e w' => e = .returned (.bool true) ∧ Below w.heap.size w w' := by
  have i3 : (p : Int) ≤ (s.size : Int) := by omega
  go_enter Try.func5, Try.ntmps5
  go_wp2_with (go_at_call 12; refine (bytes12 s _ _ _ _ _ _ _ _ hs _).mono ?_; rintro e w' ⟨rfl, rfl⟩)
  refine (new_r s p _).mono ?_
  rintro e w1 ⟨rfl, r1, k1, z1⟩
  have S1 : Hid (w1.heap.size = w.heap.size + 1) := z1
  clear z1
  go_wp2_with fail
  refine (new_v vb wd f1 f2 f3 f4 f5 _).mono ?_
  rintro e w2 ⟨rfl, v1, k2, z2⟩
  have S2 : Hid (w2.heap.size = w.heap.size + 2) := by have := S1.out; show _ = _; omega
  clear z2
  replace r1 := r1.keep k2 (by have := S1.out; omega) (by have := S1.out; omega)
  go_wp2_with fail
  refine (flags15 s hs p (by omega) w.heap.size w1.heap.size (by have := S1.out; omega) vb wd f1 f2 f3 f4 f5 w2 r1 v1).mono ?_
  clear r1 v1
  rintro e w3 ⟨rfl, e1, run1, r1, v1, k3, z3⟩
  have S3 : Hid (w3.heap.size = w.heap.size + 2) := by have := S2.out; show _ = _; omega
  clear z3
  have j1 : (p : Int) ≤ (e1 : Int) := by have := run1.1; omega
  have j2 : (e1 : Int) ≤ (s.size : Int) := by have := run1.2.1; omega
  have RR : Hid (Run s p e1) := run1
  clear run1
  have fin3 : Below w.heap.size w w3 := by
    have b1 := k1.below (Below.refl w.heap.size w) (Nat.le_refl _) (Nat.le_refl _) (Nat.le_refl _)
    have t1 := S1.out; have t2 := S2.out
    have b2 := k2.below b1 (by omega) (by omega) (by omega)
    exact k3.below b2 (by omega) (by omega) (by omega)
  clear k1 k2 k3
  go_wp2_with fail
  refine (at16 s e1 _ _ r1).mono ?_
  rintro e w' ⟨rfl, rfl⟩
  clear r1
  by_cases hee : e1 < s.size
  case' pos =>
    have q2 : (e1 : Int) < (s.size : Int) := by omega
    have hfe : fl (s[e1]'hee).toNat = false := by rw [← bt_get s e1 hee]; exact RR.out.2.2.2 hee
    go_wp2_with (go_at_call 17; refine (fl17 _ _).mono ?_; rintro e w' ⟨rfl, rfl⟩)
  case' neg =>
    have q2 : ¬ (e1 : Int) < (s.size : Int) := by omega
    go_wp2_with fail
  all_goals
    go_loop [22, 23, 24, 25, 26, 27] (fun x1 x2 x3 x4 x5 i => ∃ j : Nat, AtM s p e1 f1 f2 f3 f4 f5 x1 x2 x3 x4 x5 i j) (fun _ _ _ _ _ i => e1 - (intOf i).toNat)
    case atStart => exact ⟨p, AtM.start s p e1 f1 f2 f3 f4 f5 (by omega)⟩
    case round =>
      obtain ⟨j, hat⟩ := hrel
      obtain ⟨lo, hi, rfl, rfl, rfl, rfl, rfl, rfl⟩ := hat
      by_cases hlt : j < e1
      · have lj : j < s.size := by omega
        have l1 : (j : Int) < (e1 : Int) := by omega
        have l2 : (j : Int) < (s.size : Int) := by omega
        have HF : Hid (fl (bt s j) = true) := RR.out.2.2.1 j lo hlt
        go_wp2
        case _ =>
          have hb := byteIs lj (x := 35) (by assumption)
          go_round
          case rel => exact ⟨j + 1, AtM.mk' lo hlt _ _ _ _ _ (by simp [hb]) (by simp [hb]) (by simp [hb]) (by simp [hb]) (by simp [hb])⟩
          case measure => simp [intOf]; omega
        case _ =>
          have hb := byteIs lj (x := 48) (by assumption)
          go_round
          case rel => exact ⟨j + 1, AtM.mk' lo hlt _ _ _ _ _ (by simp [hb]) (by simp [hb]) (by simp [hb]) (by simp [hb]) (by simp [hb])⟩
          case measure => simp [intOf]; omega
        case _ =>
          have hb := byteIs lj (x := 43) (by assumption)
          go_round
          case rel => exact ⟨j + 1, AtM.mk' lo hlt _ _ _ _ _ (by simp [hb]) (by simp [hb]) (by simp [hb]) (by simp [hb]) (by simp [hb])⟩
          case measure => simp [intOf]; omega
        case _ =>
          have hb := byteIs lj (x := 45) (by assumption)
          go_round
          case rel => exact ⟨j + 1, AtM.mk' lo hlt _ _ _ _ _ (by simp [hb]) (by simp [hb]) (by simp [hb]) (by simp [hb]) (by simp [hb])⟩
          case measure => simp [intOf]; omega
        case _ =>
          have hb := byteIs lj (x := 32) (by assumption)
          go_round
          case rel => exact ⟨j + 1, AtM.mk' lo hlt _ _ _ _ _ (by simp [hb]) (by simp [hb]) (by simp [hb]) (by simp [hb]) (by simp [hb])⟩
          case measure => simp [intOf]; omega
        case _ =>
          exfalso
          have g1 := byteNo lj (x := 35) (by assumption)
          have g2 := byteNo lj (x := 48) (by assumption)
          have g3 := byteNo lj (x := 43) (by assumption)
          have g4 := byteNo lj (x := 45) (by assumption)
          have g5 := byteNo lj (x := 32) (by assumption)
          have hh := HF.out
          rw [fl_iff] at hh
          omega
      · obtain rfl : j = e1 := by omega
        have l1 : ¬ (j : Int) < (j : Int) := by omega
        go_wp2_with fail
        refine (flags18 _ _ _ _ _ _ _ _ _ v1).mono ?_
        rintro e w4 ⟨rfl, k4, z4⟩
        have S4 : Hid (w4.heap.size = w.heap.size + 2) := by have := S3.out; show _ = _; omega
        clear z4
        have v4 := v1.keep k4 (by have := S1.out; have := S3.out; omega) (by have := S1.out; have := S3.out; omega)
        have fin4 := k4.below fin3 (by have := S3.out; omega) (by have := S3.out; omega) (by have := S3.out; omega)
        go_wp2_with fail
        refine (vw19 _ _ _ _ _ _ _ _ _ v4).mono ?_
        rintro e w5 ⟨rfl, k5, z5⟩
        clear z5
        have fin5 := k5.below fin4 (by have := S4.out; omega) (by have := S4.out; omega) (by have := S4.out; omega)
        go_wp2_with fail
        go_ret
        exact ⟨rfl, fin5⟩
end Go.Proofs.Qxb6612916a
