/-
  The walk of FnFlagsResumeAcrossAnyCut.
-/
import Derived.Test.Qxb6612916aParts
namespace Go.Proofs.Qxb6612916a
open Go.RowKit
open Pl

set_option maxRecDepth 100000 in
set_option maxHeartbeats 400000 in
theorem bytes20 (s : ByteArray) (a1 a2 : Int) (hs : s.size ≤ 1048576) (w : World) :
    Calls Try.prog 20 #[.string s, .int .i64 a1, .int .i64 a2] w fun e w' => e = .returned (.bool true) ∧ w = w' := by
  go_enter Try.func20, Try.ntmps20
  go_wp2
  go_ret
  exact ⟨rfl, rfl⟩

set_option maxRecDepth 100000 in
set_option maxHeartbeats 400000 in
theorem resume_long (s : ByteArray) (a1 a2 : Int) (hs : ¬ s.size ≤ 1048576) (hm : s.size ≤ maxLen) (w : World) :
    Calls Try.prog 6 #[.string s, .int .i64 a1, .int .i64 a2] w fun e w' => e = .returned (.bool true) ∧ Below w.heap.size w w' := by
  unfold maxLen at hm
  have hs' : 1048576 < s.size := by omega
  clear hs
  go_enter Try.func6, Try.ntmps6
  go_wp2
  go_ret
  exact ⟨rfl, Below.refl _ _⟩

set_option maxRecDepth 100000 in
set_option maxHeartbeats 400000 in
theorem resume_at (s : ByteArray) (a1 a2 : Int) (hs : s.size ≤ 1048576) (h : a1 < 0 ∨ (0 ≤ a1 ∧ (s.size : Int) < a1)) (w : World) :
    Calls Try.prog 6 #[.string s, .int .i64 a1, .int .i64 a2] w fun e w' => e = .returned (.bool true) ∧ Below w.heap.size w w' := by
  rcases h with h | ⟨h1, h2⟩
  · go_enter Try.func6, Try.ntmps6
    go_wp2
    go_ret
    exact ⟨rfl, Below.refl _ _⟩
  · go_enter Try.func6, Try.ntmps6
    go_wp2
    go_ret
    exact ⟨rfl, Below.refl _ _⟩

set_option maxRecDepth 100000 in
set_option maxHeartbeats 400000 in
theorem resume_k (s : ByteArray) (a1 a2 : Int) (hs : s.size ≤ 1048576) (g0 : 0 ≤ a1) (g1 : a1 ≤ (s.size : Int)) (h : a2 < a1 ∨ (a1 ≤ a2 ∧ (s.size : Int) < a2)) (w : World) :
    Calls Try.prog 6 #[.string s, .int .i64 a1, .int .i64 a2] w fun e w' => e = .returned (.bool true) ∧ Below w.heap.size w w' := by
  rcases h with h | ⟨h1, h2⟩
  · go_enter Try.func6, Try.ntmps6
    go_wp2
    go_ret
    exact ⟨rfl, Below.refl _ _⟩
  · go_enter Try.func6, Try.ntmps6
    go_wp2
    go_ret
    exact ⟨rfl, Below.refl _ _⟩

theorem saw_join {s : ByteArray} {c p k e2 e1 : Nat} (h1 : p ≤ e2) (h2 : e2 ≤ e1) (h3 : e2 ≤ k) : (saw (s.extract 0 k) c p e2 || saw s c e2 e1) = saw s c p e1 := by
  rw [saw_extract h3, ← saw_split h1 h2]

set_option maxRecDepth 100000 in
set_option maxHeartbeats 2000000 in
theorem resume_main (s : ByteArray) (p k : Nat) (hs : s.size ≤ 1048576) (hp : p ≤ k) (hk : k ≤ s.size) (w : World) :
    Calls Try.prog 6 #[.string s, .int .i64 p, .int .i64 k] w fun e w' => e = .returned (.bool true) ∧ Below w.heap.size w w' := by
  have i1 : (p : Int) ≤ (k : Int) := by omega
  have i2 : (k : Int) ≤ (s.size : Int) := by omega
  have i3 : (p : Int) ≤ (s.size : Int) := by omega
  go_enter Try.func6, Try.ntmps6
  go_wp2_with (go_at_call 20; refine (bytes20 s _ _ hs _).mono ?_; rintro e w' ⟨rfl, rfl⟩)
  refine (new_r s p _).mono ?_
  rintro e w1 ⟨rfl, r1, k1, z1⟩
  have S1 : Hid (w1.heap.size = w.heap.size + 1) := z1
  clear z1
  go_wp2_with fail
  refine (new_v 118 0 false false false false false _).mono ?_
  rintro e w2 ⟨rfl, v1, k2, z2⟩
  have S2 : Hid (w2.heap.size = w.heap.size + 2) := by have := S1.out; show _ = _; omega
  clear z2
  replace r1 := r1.keep k2 (by have := S1.out; omega) (by have := S1.out; omega)
  go_wp2_with fail
  refine (flags15 s hs p (by omega) w.heap.size w1.heap.size (by have := S1.out; omega) 118 0 false false false false false w2 r1 v1).mono ?_
  clear r1 v1
  rintro e w3 ⟨rfl, e1, run1, r1, v1, k3, z3⟩
  have S3 : Hid (w3.heap.size = w.heap.size + 2) := by have := S2.out; show _ = _; omega
  clear z3
  simp only [Bool.false_or] at v1
  have j1 : (p : Int) ≤ (e1 : Int) := by have := run1.1; omega
  have j2 : (e1 : Int) ≤ (s.size : Int) := by have := run1.2.1; omega
  go_wp2_with fail
  refine (at16 s e1 _ _ r1).mono ?_
  rintro e w' ⟨rfl, rfl⟩
  go_wp2_with fail
  refine (flags18 _ _ _ _ _ _ _ _ _ v1).mono ?_
  rintro e w4 ⟨rfl, k4, z4⟩
  have S4 : Hid (w4.heap.size = w.heap.size + 2) := by have := S3.out; show _ = _; omega
  clear z4
  replace v1 := v1.keep k4 (by have := S1.out; have := S3.out; omega) (by have := S1.out; have := S3.out; omega)
  go_wp2_with fail
  refine (new_r (s.extract 0 k) p _).mono ?_
  rintro e w5 ⟨rfl, r2, k5, z5⟩
  have S5 : Hid (w5.heap.size = w.heap.size + 3) := by have := S4.out; show _ = _; omega
  clear z5
  replace v1 := v1.keep k5 (by have := S1.out; have := S4.out; omega) (by have := S1.out; have := S4.out; omega)
  go_wp2_with fail
  refine (new_v 118 0 false false false false false _).mono ?_
  rintro e w6 ⟨rfl, v2, k6, z6⟩
  have S6 : Hid (w6.heap.size = w.heap.size + 4) := by have := S5.out; show _ = _; omega
  clear z6
  replace v1 := v1.keep k6 (by have := S1.out; have := S5.out; omega) (by have := S1.out; have := S5.out; omega)
  replace r2 := r2.keep k6 (by have := S4.out; have := S5.out; omega) (by have := S4.out; have := S5.out; omega)
  go_wp2_with fail
  have hx : Hid ((s.extract 0 k).size = k) := by show _ = _; simp [ByteArray.size_extract]; omega
  refine (flags15 (s.extract 0 k) (by have := hx.out; omega) p (by have := hx.out; omega) w4.heap.size w5.heap.size (by have := S4.out; have := S5.out; omega) 118 0 false false false false false w6 r2 v2).mono ?_
  clear r2 v2
  rintro e w7 ⟨rfl, e2, run2, r2, v2, k7, z7⟩
  have S7 : Hid (w7.heap.size = w.heap.size + 4) := by have := S6.out; show _ = _; omega
  clear z7
  replace v1 := v1.keep k7 (by have := S1.out; have := S4.out; omega) (by have := S1.out; have := S5.out; omega)
  simp only [Bool.false_or] at v2
  have j3 : (p : Int) ≤ (e2 : Int) := by have := run2.1; omega
  have j4 : (e2 : Int) ≤ (k : Int) := by have := run2.2.1; have := hx.out; omega
  go_wp2_with fail
  refine (at16 _ e2 _ _ r2).mono ?_
  rintro e w' ⟨rfl, rfl⟩
  clear r2
  go_wp2_with fail
  refine (new_r s e2 _).mono ?_
  rintro e w8 ⟨rfl, r3, k8, z8⟩
  have S8 : Hid (w8.heap.size = w.heap.size + 5) := by have := S7.out; show _ = _; omega
  clear z8
  replace v1 := v1.keep k8 (by have := S1.out; have := S7.out; omega) (by have := S1.out; have := S7.out; omega)
  replace v2 := v2.keep k8 (by have := S5.out; have := S7.out; omega) (by have := S5.out; have := S7.out; omega)
  go_wp2_with fail
  refine (flags15 s hs e2 (by omega) w7.heap.size w5.heap.size (by have := S7.out; have := S5.out; omega) 118 0 _ _ _ _ _ w8 r3 v2).mono ?_
  clear r3 v2
  rintro e w9 ⟨rfl, e3, run3, r3, v2, k9, z9⟩
  have S9 : Hid (w9.heap.size = w.heap.size + 5) := by have := S8.out; show _ = _; omega
  clear z9
  obtain rfl : e1 = e3 := run1.unique (run2.resume hk run3)
  replace v1 := v1.keep k9 (by have := S1.out; have := S7.out; omega) (by have := S1.out; have := S5.out; omega)
  simp only [saw_join (s := s) (k := k) (by omega : p ≤ e2) (by have := run3.1; omega : e2 ≤ e1) (by omega : e2 ≤ k)] at v2
  go_wp2_with fail
  refine (at16 _ e1 _ _ r3).mono ?_
  rintro e w' ⟨rfl, rfl⟩
  clear r3
  go_wp2_with fail
  refine (flags18 _ _ _ _ _ _ _ _ _ v2).mono ?_
  rintro e w10 ⟨rfl, k10, z10⟩
  have S10 : Hid (w10.heap.size = w.heap.size + 5) := by have := S9.out; show _ = _; omega
  clear z10 v2
  replace v1 := v1.keep k10 (by have := S1.out; have := S9.out; omega) (by have := S1.out; have := S9.out; omega)
  go_wp2_with fail
  refine (new_r s e1 _).mono ?_
  rintro e w11 ⟨rfl, r4, k11, z11⟩
  have S11 : Hid (w11.heap.size = w.heap.size + 6) := by have := S10.out; show _ = _; omega
  clear z11
  replace v1 := v1.keep k11 (by have := S1.out; have := S10.out; omega) (by have := S1.out; have := S10.out; omega)
  go_wp2_with fail
  refine (flags15 s hs e1 (by omega) w10.heap.size w1.heap.size (by have := S10.out; have := S1.out; omega) 118 0 _ _ _ _ _ w11 r4 v1).mono ?_
  clear r4 v1
  rintro e w12 ⟨rfl, e4, run4, r4, v1, k12, z12⟩
  have S12 : Hid (w12.heap.size = w.heap.size + 6) := by have := S11.out; show _ = _; omega
  clear z12
  obtain rfl : e1 = e4 := (run1.again run4).symm
  simp only [saw_same, Bool.or_false] at v1
  go_wp2_with fail
  refine (at16 _ e1 _ _ r4).mono ?_
  rintro e w' ⟨rfl, rfl⟩
  clear r4
  go_wp2_with fail
  refine (flags18 _ _ _ _ _ _ _ _ _ v1).mono ?_
  rintro e w13 ⟨rfl, k13, z13⟩
  have S13 : Hid (w13.heap.size = w.heap.size + 6) := by have := S12.out; show _ = _; omega
  clear z13 v1
  have fin : Below w.heap.size w w13 := by
    have b1 := k1.below (Below.refl w.heap.size w) (Nat.le_refl _) (Nat.le_refl _) (Nat.le_refl _)
    have t1 := S1.out; have t2 := S2.out; have t3 := S3.out; have t4 := S4.out; have t5 := S5.out; have t6 := S6.out; have t7 := S7.out; have t8 := S8.out; have t9 := S9.out; have t10 := S10.out; have t11 := S11.out; have t12 := S12.out
    have b2 := k2.below b1 (by omega) (by omega) (by omega)
    have b3 := k3.below b2 (by omega) (by omega) (by omega)
    have b4 := k4.below b3 (by omega) (by omega) (by omega)
    have b5 := k5.below b4 (by omega) (by omega) (by omega)
    have b6 := k6.below b5 (by omega) (by omega) (by omega)
    have b7 := k7.below b6 (by omega) (by omega) (by omega)
    have b8 := k8.below b7 (by omega) (by omega) (by omega)
    have b9 := k9.below b8 (by omega) (by omega) (by omega)
    have b10 := k10.below b9 (by omega) (by omega) (by omega)
    have b11 := k11.below b10 (by omega) (by omega) (by omega)
    have b12 := k12.below b11 (by omega) (by omega) (by omega)
    exact k13.below b12 (by omega) (by omega) (by omega)
  clear k1 k2 k3 k4 k5 k6 k7 k8 k9 k10 k11 k12 k13 S1 S2 S3 S4 S5 S6 S7 S8 S9 S10 S11 S12 S13
  have RR : Hid (Run s p e1) := run1
  clear run1 run2 run3 run4
  by_cases hpe : p = s.size
  · have hee : e1 = s.size := by have h1 := RR.out.1; have h2 := RR.out.2.1; omega
    have q1 : ((p : Int) == (s.size : Int)) = true := by simp; omega
    have q2 : ((e1 : Int) == (s.size : Int)) = true := by simp; omega
    clear hpe hee
    go_wp2_with fail
    go_ret
    exact ⟨rfl, fin⟩
  · have q1 : ((p : Int) == (s.size : Int)) = false := by simp; omega
    have lp : p < s.size := by omega
    have lp' : (p : Int) < (s.size : Int) := by omega
    clear hpe
    by_cases hfp : fl (s[p]'lp).toNat = true
    · have hpe1 : (p : Int) < (e1 : Int) := by
        rcases Nat.lt_or_ge p e1 with x | x
        · omega
        · have h1 := RR.out.1
          have h3 := RR.out.2.2.2 (by omega)
          have e : e1 = p := by omega
          rw [e, bt_get s p lp, hfp] at h3
          cases h3
      by_cases hee : e1 = s.size
      · have q2 : ((e1 : Int) == (s.size : Int)) = true := by simp; omega
        clear hee
        go_wp2_with (go_at_call 17; refine (fl17 _ _).mono ?_; rintro e w' ⟨rfl, rfl⟩)
        go_ret
        exact ⟨rfl, fin⟩
      · have q2 : ((e1 : Int) == (s.size : Int)) = false := by simp; omega
        have le : e1 < s.size := by omega
        have le' : (e1 : Int) < (s.size : Int) := by omega
        have hfe : fl (s[e1]'le).toNat = false := by rw [← bt_get s e1 le]; exact RR.out.2.2.2 le
        clear hee
        go_wp2_with (go_at_call 17; refine (fl17 _ _).mono ?_; rintro e w' ⟨rfl, rfl⟩)
        go_ret
        exact ⟨rfl, fin⟩
    · have hfp' : fl (s[p]'lp).toNat = false := by simpa using hfp
      clear hfp
      have hee : e1 = p := by
        rcases Nat.lt_or_ge p e1 with x | x
        · have h3 := RR.out.2.2.1 p (Nat.le_refl _) x
          rw [bt_get s p lp, hfp'] at h3
          cases h3
        · have h1 := RR.out.1; omega
      have q2 : ((e1 : Int) == (s.size : Int)) = false := by simp; omega
      have le : e1 < s.size := by omega
      have le' : (e1 : Int) < (s.size : Int) := by omega
      have hfe : fl (s[e1]'le).toNat = false := by rw [← bt_get s e1 le]; exact RR.out.2.2.2 le
      clear hee
      go_wp2_with (go_at_call 17; refine (fl17 _ _).mono ?_; rintro e w' ⟨rfl, rfl⟩)
      go_ret
      exact ⟨rfl, fin⟩
end Go.Proofs.Qxb6612916a
