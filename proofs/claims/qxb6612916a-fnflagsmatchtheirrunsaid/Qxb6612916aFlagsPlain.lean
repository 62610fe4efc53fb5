/-
  Plain law of the flags' reader: no Go in sight.
-/
import Derived.WalkKit
namespace Go.Proofs.Qxb6612916a.Pl
open Go.RowKit

/-- byte i of s, 0 beyond the end -/
def bt (s : ByteArray) (i : Nat) : Nat := (s.data.toList.getD i 0).toNat

theorem bt_get (s : ByteArray) (i : Nat) (h : i < s.size) : bt s i = (s[i]'h).toNat := by
  unfold bt
  rw [List.getD_eq_getElem?_getD, List.getElem?_eq_getElem (by simpa using h)]
  rfl

/-- is the number of a byte one of the five flags'? -/
def fl (n : Nat) : Bool := n == 35 || n == 48 || n == 43 || n == 45 || n == 32

/-- does byte c stand in [a, e)? -/
def saw (s : ByteArray) (c : Nat) (a e : Nat) : Bool := (List.range e).any fun i => decide (a ≤ i) && bt s i == c

theorem saw_iff {s : ByteArray} {c a e : Nat} : saw s c a e = true ↔ ∃ i, a ≤ i ∧ i < e ∧ bt s i = c := by
  unfold saw
  simp only [List.any_eq_true, List.mem_range, Bool.and_eq_true, decide_eq_true_eq, beq_iff_eq]
  exact ⟨fun ⟨i, h1, h2, h3⟩ => ⟨i, h2, h1, h3⟩, fun ⟨i, h1, h2, h3⟩ => ⟨i, h2, h1, h3⟩⟩

theorem saw_same (s : ByteArray) (c a : Nat) : saw s c a a = false := by
  rw [Bool.eq_false_iff]
  intro h
  obtain ⟨i, h1, h2, _⟩ := saw_iff.1 h
  omega

theorem saw_split {s : ByteArray} {c a b e : Nat} (h1 : a ≤ b) (h2 : b ≤ e) : saw s c a e = (saw s c a b || saw s c b e) := by
  rw [Bool.eq_iff_iff, Bool.or_eq_true, saw_iff, saw_iff, saw_iff]
  constructor
  · rintro ⟨i, x, y, z⟩
    by_cases hb : i < b
    · exact .inl ⟨i, x, hb, z⟩
    · exact .inr ⟨i, by omega, y, z⟩
  · rintro (⟨i, x, y, z⟩ | ⟨i, x, y, z⟩)
    · exact ⟨i, x, by omega, z⟩
    · exact ⟨i, by omega, y, z⟩

theorem saw_one (s : ByteArray) (c a : Nat) : saw s c a (a + 1) = (bt s a == c) := by
  rw [Bool.eq_iff_iff, saw_iff]
  simp only [beq_iff_eq]
  constructor
  · rintro ⟨i, x, y, z⟩
    have : i = a := by omega
    rw [← this]; exact z
  · intro h
    exact ⟨a, Nat.le_refl _, by omega, h⟩

theorem saw_succ {s : ByteArray} {c a e : Nat} (h : a ≤ e) : saw s c a (e + 1) = (saw s c a e || bt s e == c) := by
  rw [saw_split h (by omega : e ≤ e + 1), saw_one]

/-- [a, e) is the run of flags that begins at a -/
def Run (s : ByteArray) (a e : Nat) : Prop := a ≤ e ∧ e ≤ s.size ∧ (∀ i, a ≤ i → i < e → fl (bt s i) = true) ∧ (e < s.size → fl (bt s e) = false)

theorem Run.unique {s : ByteArray} {a e e' : Nat} (h : Run s a e) (k : Run s a e') : e = e' := by
  obtain ⟨h1, h2, h3, h4⟩ := h
  obtain ⟨k1, k2, k3, k4⟩ := k
  rcases Nat.lt_trichotomy e e' with x | x | x
  · have := k3 e h1 x
    rw [h4 (by omega)] at this; cases this
  · exact x
  · have := h3 e' k1 x
    rw [k4 (by omega)] at this; cases this

theorem bt_extract {s : ByteArray} {k i : Nat} (hi : i < k) : bt (s.extract 0 k) i = bt s i := by
  unfold bt
  rw [show (s.extract 0 k).data.toList = s.data.toList.take k from by simp [ByteArray.data_extract]]
  rw [List.getD_eq_getElem?_getD, List.getD_eq_getElem?_getD, List.getElem?_take, if_pos hi]

theorem saw_extract {s : ByteArray} {c a e k : Nat} (h : e ≤ k) : saw (s.extract 0 k) c a e = saw s c a e := by
  rw [Bool.eq_iff_iff, saw_iff, saw_iff]
  constructor
  · rintro ⟨i, x, y, z⟩; exact ⟨i, x, y, by rw [bt_extract (by omega)] at z; exact z⟩
  · rintro ⟨i, x, y, z⟩; exact ⟨i, x, y, by rw [bt_extract (by omega)]; exact z⟩

/-- the run of a cut text, then the run of the whole from there: the run of the whole -/
theorem Run.resume {s : ByteArray} {a k e2 e3 : Nat} (hk : k ≤ s.size) (h : Run (s.extract 0 k) a e2) (h' : Run s e2 e3) : Run s a e3 := by
  obtain ⟨h1, h2, h3, h4⟩ := h
  obtain ⟨k1, k2, k3, k4⟩ := h'
  have hs : (s.extract 0 k).size = k := by simp [ByteArray.size_extract]; omega
  refine ⟨by omega, k2, fun i x y => ?_, k4⟩
  by_cases hb : i < e2
  · have := h3 i x hb
    rwa [bt_extract (by omega)] at this
  · exact k3 i (by omega) y

theorem Run.again {s : ByteArray} {a e e' : Nat} (h : Run s a e) (k : Run s e e') : e' = e := by
  have hr : Run s e e := ⟨Nat.le_refl _, h.2.1, fun i x y => by omega, h.2.2.2⟩
  exact k.unique hr

/-- what Go's comparison of a byte says, in the walk's form -/
theorem fl_iff (n : Nat) : fl n = true ↔ n = 35 ∨ n = 48 ∨ n = 43 ∨ n = 45 ∨ n = 32 := by
  unfold fl
  simp only [Bool.or_eq_true, beq_iff_eq]
  omega
end Go.Proofs.Qxb6612916a.Pl
