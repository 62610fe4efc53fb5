/-
  Bits of a word: no Go in sight.
-/
import Derived.WalkKit
import Derived.Laws.BitsAllLaws
import Derived.Laws.Bits64
namespace Go.Proofs.Qxb6613288a

/-- 2^64, behind a name -/
def two64 : Nat := 18446744073709551616

theorem two64_pow : two64 = 2 ^ 64 := rfl

theorem wrap_pow (k : Nat) (hk : k < 64) : IntKind.u64.wrap (2 ^ k) = ((2 ^ k : Nat) : Int) := by
  rw [IntKind.wrap_u64]
  have h : (2 : Nat) ^ k < 2 ^ 64 := Nat.pow_lt_pow_right (by decide) hk
  have e : ((2 : Int) ^ k) = ((2 ^ k : Nat) : Int) := by simp
  rw [e]
  generalize (2 : Nat) ^ k = p at h
  omega

theorem pow_lt64 (k : Nat) (hk : k < 64) : 2 ^ k < 18446744073709551616 := by
  have h : (2 : Nat) ^ k < 2 ^ 64 := Nat.pow_lt_pow_right (by decide) hk
  omega

/-- 'x & (1 << k) != 0' -/
theorem bit_test (x k : Nat) (hx : x < two64) (hk : k < 64) : (bits .and .u64 (x : Int) (IntKind.u64.wrap (2 ^ k)) != 0) = x.testBit k := by
  unfold two64 at hx
  rw [wrap_pow k hk, u64_and_nat x (2 ^ k) hx (pow_lt64 k hk)]
  cases h : x.testBit k with
  | false =>
    have h0 : x &&& 2 ^ k = 0 := by
      apply Nat.eq_of_testBit_eq
      intro i
      rw [Nat.testBit_and, Nat.testBit_two_pow, Nat.zero_testBit]
      by_cases e : k = i
      · subst e; simp [h]
      · simp [e]
    rw [h0]; rfl
  | true =>
    have h1 : x &&& 2 ^ k ≠ 0 := by
      intro h0
      have : (x &&& 2 ^ k).testBit k = true := by rw [Nat.testBit_and, Nat.testBit_two_pow, h]; simp
      rw [h0, Nat.zero_testBit] at this
      cases this
    simp only [bne_iff_ne, ne_eq]
    omega

/-- the bits below k of x -/
def low (x k : Nat) : Nat := x % 2 ^ k

theorem low_zero (x : Nat) : low x 0 = 0 := by unfold low; omega
theorem low_lt {x : Nat} (hx : x < two64) (k : Nat) : low x k < two64 := Nat.lt_of_le_of_lt (Nat.mod_le _ _) hx
theorem low_all {x : Nat} (hx : x < two64) : low x 64 = x := by unfold low; exact Nat.mod_eq_of_lt hx

theorem low_no {x k : Nat} (h : x.testBit k = false) : low x (k + 1) = low x k := by
  unfold low
  apply Nat.eq_of_testBit_eq
  intro i
  rw [Nat.testBit_mod_two_pow, Nat.testBit_mod_two_pow]
  by_cases e : i = k
  · subst e; simp [h]
  · have : decide (i < k + 1) = decide (i < k) := by
      by_cases h1 : i < k <;> simp [h1] <;> omega
    rw [this]

theorem low_yes {x k : Nat} (h : x.testBit k = true) : low x (k + 1) = low x k ||| 2 ^ k := by
  unfold low
  apply Nat.eq_of_testBit_eq
  intro i
  rw [Nat.testBit_or, Nat.testBit_mod_two_pow, Nat.testBit_mod_two_pow, Nat.testBit_two_pow]
  by_cases e : i = k
  · subst e; simp [h]
  · have h1 : decide (i < k + 1) = decide (i < k) := by
      by_cases h1 : i < k <;> simp [h1] <;> omega
    have h2 : decide (k = i) = false := by simp; omega
    rw [h1, h2, Bool.or_false]

/-- 'w |= 1 << k' -/
theorem or_step {x k : Nat} (hx : x < two64) (hk : k < 64) (h : x.testBit k = true) : bits .or .u64 (low x k : Int) (IntKind.u64.wrap (2 ^ k)) = (low x (k + 1) : Int) := by
  have hl := low_lt hx k
  unfold two64 at hl
  rw [wrap_pow k hk, u64_or_nat (low x k) (2 ^ k) hl (pow_lt64 k hk), low_yes h]

/-- the complement -/
def comp (x : Nat) : Nat := 18446744073709551615 - x
theorem comp_lt (x : Nat) : comp x < two64 := by unfold comp two64; omega
theorem comp_bit {x k : Nat} (hx : x < two64) (hk : k < 64) : (comp x).testBit k = !x.testBit k := by
  unfold comp
  rw [show (18446744073709551615 - x : Nat) = 2 ^ 64 - (x + 1) from by unfold two64 at hx; omega, Nat.testBit_two_pow_sub_succ (by exact hx)]
  simp [hk]

/-- is id in the set of the words f 0 .. f (len - 1)? -/
def liveB (f : Nat → Nat) (len id : Nat) : Bool := decide (id / 64 < len) && (f (id / 64)).testBit (id % 64)
theorem liveB_in {f : Nat → Nat} {len id : Nat} (h : id / 64 < len) : liveB f len id = (f (id / 64)).testBit (id % 64) := by simp [liveB, h]
theorem liveB_out {f : Nat → Nat} {len id : Nat} (h : ¬ id / 64 < len) : liveB f len id = false := by simp [liveB, h]
theorem liveB_at {f : Nat → Nat} {len i j : Nat} (hi : i < len) (hj : j < 64) : liveB f len (i * 64 + j) = (f i).testBit j := by
  have h1 : (i * 64 + j) / 64 = i := by omega
  have h2 : (i * 64 + j) % 64 = j := by omega
  rw [liveB_in (by omega), h1, h2]
theorem liveB_comp {f : Nat → Nat} {len id : Nat} (hf : ∀ j, j < len → f j < two64) (h : id / 64 < len) : liveB (fun j => comp (f j)) len id = !liveB f len id := by
  rw [liveB_in h, liveB_in h]
  exact comp_bit (hf _ h) (by omega)
/-- a word put before the words -/
def pre (w : Nat) (f : Nat → Nat) (j : Nat) : Nat := if j = 0 then w else f (j - 1)
theorem liveB_pre (w : Nat) (f : Nat → Nat) (len id : Nat) : liveB (pre w f) (len + 1) (id + 64) = liveB f len id := by
  unfold liveB pre
  rw [show (id + 64) / 64 = id / 64 + 1 by omega, show (id + 64) % 64 = id % 64 by omega, if_neg (by omega), show id / 64 + 1 - 1 = id / 64 by omega]
  congr 1
  simp
theorem liveB_pre0 (w : Nat) (f : Nat → Nat) (len : Nat) {j : Nat} (hj : j < 64) : liveB (pre w f) (len + 1) j = w.testBit j := by
  unfold liveB pre
  rw [show j / 64 = 0 by omega, show j % 64 = j by omega]
  simp
end Go.Proofs.Qxb6613288a
