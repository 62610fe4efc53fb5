/-
  Decimal digits: no Go in sight.
-/
import Derived.WalkKit
namespace Go.Proofs.Qxb6613136a

def dgF : Nat → Nat → List UInt8
  | 0, _ => []
  | f + 1, n => if n = 0 then [] else dgF f (n / 10) ++ [UInt8.ofNat (48 + n % 10)]
def dg (n : Nat) : List UInt8 := dgF n n
/-- what zzStB1Itoa answers -/
def itoa (n : Nat) : ByteArray := if n = 0 then ⟨#[48]⟩ else ⟨(dg n).toArray⟩

theorem dgF_zero (f : Nat) : dgF f 0 = [] := by cases f <;> simp [dgF]
theorem dgF_fuel : ∀ (f g n : Nat), n ≤ f → n ≤ g → dgF f n = dgF g n
  | 0, g, n, h1, _ => by
    have : n = 0 := by omega
    rw [this, dgF_zero, dgF_zero]
  | f + 1, 0, n, _, h2 => by
    have : n = 0 := by omega
    rw [this, dgF_zero, dgF_zero]
  | f + 1, g + 1, n, h1, h2 => by
    unfold dgF
    by_cases h : n = 0
    · rw [if_pos h, if_pos h]
    · rw [if_neg h, if_neg h, dgF_fuel f g (n / 10) (by omega) (by omega)]

theorem dg_zero : dg 0 = [] := rfl
theorem dg_pos {n : Nat} (h : 0 < n) : dg n = dg (n / 10) ++ [UInt8.ofNat (48 + n % 10)] := by
  unfold dg
  obtain ⟨m, rfl⟩ : ∃ m, n = m + 1 := ⟨n - 1, by omega⟩
  rw [show dgF (m + 1) (m + 1) = if m + 1 = 0 then [] else dgF m ((m + 1) / 10) ++ [UInt8.ofNat (48 + (m + 1) % 10)] from rfl, if_neg (by omega), dgF_fuel m ((m + 1) / 10) ((m + 1) / 10) (by omega) (Nat.le_refl _)]

def val (l : List UInt8) : Nat := l.foldl (fun a d => a * 10 + (d.toNat - 48)) 0
theorem val_snoc (l : List UInt8) (d : UInt8) : val (l ++ [d]) = val l * 10 + (d.toNat - 48) := by simp [val, List.foldl_append]

theorem digit_toNat (n : Nat) : (UInt8.ofNat (48 + n % 10)).toNat = 48 + n % 10 := by
  rw [UInt8.toNat_ofNat']
  omega

theorem val_dg (f : Nat) : ∀ n, n ≤ f → val (dg n) = n := by
  induction f with
  | zero => intro n h; have : n = 0 := by omega
            rw [this]; rfl
  | succ f ih =>
    intro n h
    by_cases h0 : n = 0
    · rw [h0]; rfl
    · rw [dg_pos (by omega), val_snoc, ih (n / 10) (by omega), digit_toNat]
      omega

theorem itoa_inj {n m : Nat} (h : itoa n = itoa m) : n = m := by
  have key : ∀ n, val (itoa n).data.toList = n := by
    intro n
    unfold itoa
    by_cases h0 : n = 0
    · rw [if_pos h0, h0]; rfl
    · rw [if_neg h0]
      exact val_dg n n (Nat.le_refl _)
  rw [← key n, h, key m]

theorem dg_digits (f : Nat) : ∀ n, n ≤ f → ∀ d ∈ dg n, d.toNat < 58 := by
  induction f with
  | zero => intro n h; have : n = 0 := by omega
            rw [this]; intro d hd; cases hd
  | succ f ih =>
    intro n h d hd
    by_cases h0 : n = 0
    · rw [h0] at hd; cases hd
    · rw [dg_pos (by omega)] at hd
      rcases List.mem_append.1 hd with g | g
      · exact ih (n / 10) (by omega) d g
      · rw [List.mem_singleton.1 g, digit_toNat]; omega

/-- no number reads 'x' -/
theorem itoa_ne_x (n : Nat) : itoa n ≠ ⟨#[120]⟩ := by
  intro h
  unfold itoa at h
  by_cases h0 : n = 0
  · rw [if_pos h0] at h
    exact absurd h (by decide)
  · rw [if_neg h0] at h
    have e : (dg n).toArray = #[120] := congrArg ByteArray.data h
    have : (120 : UInt8) ∈ dg n := by
      have : (120 : UInt8) ∈ (dg n).toArray := by rw [e]; simp
      simpa using this
    have := dg_digits n n (Nat.le_refl _) _ this
    exact absurd this (by decide)

theorem dg_len (f : Nat) : ∀ n, n ≤ f → (dg n).length ≤ n := by
  induction f with
  | zero => intro n h; have : n = 0 := by omega
            rw [this]; exact Nat.le_refl _
  | succ f ih =>
    intro n h
    by_cases h0 : n = 0
    · rw [h0]; exact Nat.le_refl _
    · rw [dg_pos (by omega)]
      have := ih (n / 10) (by omega)
      simp
      omega

theorem itoa_size {n : Nat} (h : n ≤ 1048576) : (itoa n).size ≤ maxLen := by
  have hm : 1048576 ≤ maxLen := by unfold maxLen; decide
  unfold itoa
  by_cases h0 : n = 0
  · rw [if_pos h0]
    have : (⟨#[48]⟩ : ByteArray).size = 1 := rfl
    omega
  · rw [if_neg h0]
    have h1 : (⟨(dg n).toArray⟩ : ByteArray).size = (dg n).length := by simp [ByteArray.size]
    have := dg_len n n (Nat.le_refl _)
    omega

theorem pow_lt {q k n : Nat} (hq : 0 < q) (h : q * 10 ^ k ≤ n) (hn : n ≤ 1048576) : k < 7 := by
  rcases Nat.lt_or_ge k 7 with x | x
  · exact x
  · have h1 : 10 ^ 7 ≤ 10 ^ k := Nat.pow_le_pow_right (by decide) x
    have h2 : 10 ^ k ≤ q * 10 ^ k := Nat.le_mul_of_pos_left _ hq
    omega
theorem pow_step {q k n : Nat} (h : q * 10 ^ k ≤ n) : q / 10 * 10 ^ (k + 1) ≤ n := by
  rw [Nat.pow_succ, Nat.mul_comm (10 ^ k) 10, ← Nat.mul_assoc]
  exact Nat.le_trans (Nat.mul_le_mul_right _ (by omega)) h
end Go.Proofs.Qxb6613136a
