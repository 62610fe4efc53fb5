/-
  What zzStB1Build makes, in plain words; the steps of its loops.
-/
import Derived.Test.Qxb6613136aStore
import Derived.Test.Qxb6613136aItoa
import Derived.Test.Qxb6613136aSizes
namespace Go.Proofs.Qxb6613136a
open Go.RowKit Go.Maps
set_option maxRecDepth 100000

/-- the kind of every object: the one letter K -/
def kK : ByteArray := ⟨#[75]⟩

/-- how many of the first n strings are s -/
def cnt (f : Nat → ByteArray) : Nat → ByteArray → Nat
  | 0, _ => 0
  | n + 1, s => cnt f n s + if f n = s then 1 else 0

/-- the keys of namespace s behind the first n objects -/
def keys (f : Nat → ByteArray) (n : Nat) (s : ByteArray) (x : Value) : Prop := ∃ i, i < n ∧ f i = s ∧ x = kv kK s (itoa i)

/-- is s among the first n of g, and does it hold an object? -/
def tau (c : ByteArray → Nat) (g : Nat → ByteArray) : Nat → ByteArray → Bool
  | 0, _ => false
  | n + 1, s => tau c g n s || (decide (g n = s) && decide (0 < c s))

theorem cnt_le (f : Nat → ByteArray) (n : Nat) (s : ByteArray) : cnt f n s ≤ n := by
  induction n with
  | zero => exact Nat.le_refl _
  | succ n ih => unfold cnt; split <;> omega

theorem cnt_succ (f : Nat → ByteArray) (n : Nat) (s : ByteArray) : cnt f (n + 1) s = if s = f n then cnt f n s + 1 else cnt f n s := by
  rw [show cnt f (n + 1) s = cnt f n s + if f n = s then 1 else 0 from rfl]
  by_cases h : f n = s
  · rw [if_pos h, if_pos h.symm]
  · rw [if_neg h, if_neg (fun e => h e.symm)]; rfl

theorem cnt_zero_iff (f : Nat → ByteArray) (n : Nat) (s : ByteArray) : cnt f n s = 0 ↔ ∀ i, i < n → f i ≠ s := by
  induction n with
  | zero => exact ⟨fun _ i h => by omega, fun _ => rfl⟩
  | succ n ih =>
    rw [cnt_succ]
    constructor
    · intro h i hi e
      by_cases he : s = f n
      · rw [if_pos he] at h; omega
      · rw [if_neg he] at h
        by_cases hn : i = n
        · exact he (by rw [← e, hn])
        · exact ih.1 h i (by omega) e
    · intro h
      rw [if_neg (fun e => h n (by omega) e.symm)]
      exact ih.2 fun i hi => h i (by omega)

theorem cnt_pos (f : Nat → ByteArray) {n i : Nat} (h : i < n) : 0 < cnt f n (f i) := by
  rcases Nat.eq_zero_or_pos (cnt f n (f i)) with x | x
  · exact absurd rfl ((cnt_zero_iff f n (f i)).1 x i h)
  · exact x

theorem tau_pos {c : ByteArray → Nat} {g : Nat → ByteArray} {n : Nat} {s : ByteArray} (h : tau c g n s = true) : 0 < c s := by
  induction n with
  | zero => cases h
  | succ n ih =>
    simp only [tau, Bool.or_eq_true, Bool.and_eq_true, decide_eq_true_eq] at h
    rcases h with h | ⟨_, h⟩
    · exact ih h
    · exact h

theorem tau_succ_no {c : ByteArray → Nat} {g : Nat → ByteArray} {n : Nat} (h : ¬ 0 < c (g n)) (s : ByteArray) : tau c g (n + 1) s = tau c g n s := by
  rw [show tau c g (n + 1) s = (tau c g n s || (decide (g n = s) && decide (0 < c s))) from rfl]
  by_cases e : g n = s
  · rw [← e]; simp [h]
  · simp [e]

theorem tau_succ_yes {c : ByteArray → Nat} {g : Nat → ByteArray} {n : Nat} (h : 0 < c (g n)) (s : ByteArray) : tau c g (n + 1) s = if s = g n then true else tau c g n s := by
  rw [show tau c g (n + 1) s = (tau c g n s || (decide (g n = s) && decide (0 < c s))) from rfl]
  by_cases e : g n = s
  · rw [if_pos e.symm, ← e]; simp [h]
  · rw [if_neg (fun x => e x.symm)]; simp [e]

theorem kv_inj {a b c a' b' c' : ByteArray} (h : kv a b c = kv a' b' c') : a = a' ∧ b = b' ∧ c = c' := by
  unfold kv at h
  simp only [Value.agg.injEq, Array.mk.injEq, List.cons.injEq, Value.string.injEq, and_true] at h
  exact h

/-- the next object's key is a new one -/
theorem key_new (f : Nat → ByteArray) (n : Nat) : ¬ keys f n (f n) (kv kK (f n) (itoa n)) := by
  rintro ⟨i, hi, _, h⟩
  have := itoa_inj (kv_inj h).2.2
  omega

theorem key_x (f : Nat → ByteArray) (n : Nat) (s : ByteArray) : ¬ keys f n s (kv kK s ⟨#[120]⟩) := by
  rintro ⟨i, _, _, h⟩
  exact itoa_ne_x i (kv_inj h).2.2.symm

theorem keys_succ (f : Nat → ByteArray) (n : Nat) (x : Value) : keys f (n + 1) (f n) x ↔ (x = kv kK (f n) (itoa n) ∨ keys f n (f n) x) := by
  constructor
  · rintro ⟨i, hi, h1, h2⟩
    by_cases e : i = n
    · exact .inl (by rw [h2, e])
    · exact .inr ⟨i, by omega, h1, h2⟩
  · rintro (h | ⟨i, hi, h1, h2⟩)
    · exact ⟨n, by omega, rfl, h⟩
    · exact ⟨i, by omega, h1, h2⟩

theorem keys_succ_other (f : Nat → ByteArray) (n : Nat) {s : ByteArray} (hs : s ≠ f n) (x : Value) : keys f (n + 1) s x ↔ keys f n s x := by
  constructor
  · rintro ⟨i, hi, h1, h2⟩
    by_cases e : i = n
    · exact absurd (by rw [← h1, e]) hs
    · exact ⟨i, by omega, h1, h2⟩
  · rintro ⟨i, hi, h1, h2⟩
    exact ⟨i, by omega, h1, h2⟩

section
variable {B : Nat} {X : Nat → Prop} {w w' : World} {st sp : Nat} {sh : Option Nat} {σ : ByteArray → Option Nat} {κ κ' : ByteArray → Value → Prop} {c c' : ByteArray → Nat}

theorem Store.congr (h : Store B X w st sp sh σ κ c) (hk : ∀ s b, σ s = some b → (∀ x, κ s x ↔ κ' s x) ∧ c s = c' s) : Store B X w st sp sh σ κ' c' :=
  ⟨h.xst, h.xsp, h.xsh, h.xlt, h.nst, h.nsh, h.c6, h.c7, h.fz, h.spaces, h.inj, h.ge, fun s b hb => by
    have := (h.obj s b hb).congr (hk s b hb).1
    rw [(hk s b hb).2] at this
    exact this⟩

/-- one namespace's map has turned -/
theorem Store.setObj (h : Store B X w st sp sh σ κ c) {s : ByteArray} {b : Nat} (hb : σ s = some b) (g : Kept (fun k => k = b) w w') {κ0 : Value → Prop} {n0 : Nat} (ho : ObjIs w' b κ0 n0) :
    Store B X w' st sp sh σ (fun s' x => if s' = s then κ0 x else κ s' x) (fun s' => if s' = s then n0 else c s') := by
  have hxb := (h.ge s b hb).2
  obtain ⟨m, hm⟩ := h.spaces
  have h1 : ¬ st = b := fun e => hxb (by rw [← e]; exact h.xst)
  have h2 : ¬ sp = b := fun e => hxb (by rw [← e]; exact h.xsp)
  refine ⟨h.xst, h.xsp, h.xsh, fun k hk => ⟨(h.xlt k hk).1, Nat.lt_of_lt_of_le (h.xlt k hk).2 g.size⟩, h.nst, h.nsh, cell_keep h.c6 g (h.xlt _ h.xst).2 h1, cell_keep h.c7 g (h.xlt _ h.xst).2 h1, frozen_keep h.fz g (h.xlt _ h.xst).2 h1, ⟨m, hm.keep g h2⟩, h.inj, h.ge, fun s' b' hb' => ?_⟩
  by_cases e : s' = s
  · have : b' = b := by rw [e, hb] at hb'; exact (Option.some.inj hb').symm
    simp only [e, if_true]
    rw [this]
    exact ho
  · simp only [e, if_false]
    exact (h.obj s' b' hb').keep g (fun hh => e (h.inj s' s b (by rw [← hh]; exact hb') hb))

/-- more blocks that are no space's: new ones -/
theorem Store.extend (h : Store B X w st sp sh σ κ c) {X' : Nat → Prop} (hX : ∀ k, X k → X' k) (hX' : ∀ k, X' k → B ≤ k ∧ k < w.heap.size) (hσ : ∀ s b, σ s = some b → ¬ X' b) : Store B X' w st sp sh σ κ c :=
  ⟨hX _ h.xst, hX _ h.xsp, fun k e => hX _ (h.xsh k e), hX', h.nst, h.nsh, h.c6, h.c7, h.fz, h.spaces, h.inj, fun s b hb => ⟨(h.ge s b hb).1, hσ s b hb⟩, h.obj⟩
end

/-- the counts behind one more object -/
theorem Cn_succ (f : Nat → ByteArray) (n : Nat) (y u : Value) :
    ((y = .string (f n) ∧ u = .int .i64 ((cnt f n (f n) : Int) + 1)) ∨ (y ≠ .string (f n) ∧ Cn (cnt f n) y u)) ↔ Cn (cnt f (n + 1)) y u := by
  constructor
  · rintro (⟨rfl, rfl⟩ | ⟨hne, s, rfl, h1, rfl⟩)
    · exact ⟨f n, rfl, by rw [cnt_succ, if_pos rfl]; omega, by rw [cnt_succ, if_pos rfl]; rfl⟩
    · have hs : s ≠ f n := fun e => hne (by rw [e])
      exact ⟨s, rfl, by rw [cnt_succ, if_neg hs]; exact h1, by rw [cnt_succ, if_neg hs]⟩
  · rintro ⟨s, rfl, h1, rfl⟩
    by_cases hs : s = f n
    · exact .inl ⟨by rw [hs], by rw [hs, cnt_succ, if_pos rfl]; rfl⟩
    · rw [cnt_succ, if_neg hs] at h1
      exact .inr ⟨fun e => hs (by cases e; rfl), s, rfl, h1, by rw [cnt_succ, if_neg hs]⟩

theorem Sh_put (τ : ByteArray → Bool) (s0 : ByteArray) (y u : Value) :
    ((y = .string s0 ∧ u = .bool true) ∨ (y ≠ .string s0 ∧ Sh τ y u)) ↔ Sh (fun s => if s = s0 then true else τ s) y u := by
  constructor
  · rintro (⟨rfl, rfl⟩ | ⟨hne, s, rfl, h1, rfl⟩)
    · exact ⟨s0, rfl, by simp, rfl⟩
    · have hs : s ≠ s0 := fun e => hne (by rw [e])
      exact ⟨s, rfl, by show (if s = s0 then true else τ s) = true; rw [if_neg hs]; exact h1, rfl⟩
  · rintro ⟨s, rfl, h1, rfl⟩
    replace h1 : (if s = s0 then true else τ s) = true := h1
    by_cases hs : s = s0
    · exact .inl ⟨by rw [hs], rfl⟩
    · rw [if_neg hs] at h1
      exact .inr ⟨fun e => hs (by cases e; rfl), s, rfl, h1, rfl⟩

theorem Sh_congr {τ τ' : ByteArray → Bool} (h : ∀ s, τ s = τ' s) (y u : Value) : Sh τ y u ↔ Sh τ' y u := by
  constructor
  · rintro ⟨s, a, b, c⟩; exact ⟨s, a, by rw [← h]; exact b, c⟩
  · rintro ⟨s, a, b, c⟩; exact ⟨s, a, by rw [h]; exact b, c⟩

/-- WHAT HOLDS AT THE FIRST LOOP's HEAD, n objects laid -/
structure In1 (B : Nat) (f : Nat → ByteArray) (w0 w : World) (σ : ByteArray → Option Nat) (n : Nat) : Prop where
  store : Store B (fun k => B ≤ k ∧ k < B + 3) w (B + 1) B none σ (keys f n) (cnt f n)
  dom : ∀ s, σ s = none ↔ cnt f n s = 0
  counts : ∃ m, MapIs 9 w (B + 2) (Cn (cnt f n)) m
  bel : Below B w0 w
  big : B + 3 ≤ w.heap.size

/-- .. and behind the first call of the round: block b is the next object's namespace's map -/
structure Mid1 (B : Nat) (f : Nat → ByteArray) (w0 w : World) (σ : ByteArray → Option Nat) (n b : Nat) : Prop where
  store : Store B (fun k => B ≤ k ∧ k < B + 3) w (B + 1) B none σ (keys f n) (cnt f n)
  dom : ∀ s, s ≠ f n → (σ s = none ↔ cnt f n s = 0)
  here : σ (f n) = some b
  counts : ∃ m, MapIs 9 w (B + 2) (Cn (cnt f n)) m
  bel : Below B w0 w
  big : B + 3 ≤ w.heap.size

/-- .. and behind the second -/
structure Late1 (B : Nat) (f : Nat → ByteArray) (w0 w : World) (σ : ByteArray → Option Nat) (n : Nat) : Prop where
  store : Store B (fun k => B ≤ k ∧ k < B + 3) w (B + 1) B none σ (keys f (n + 1)) (cnt f (n + 1))
  dom : ∀ s, σ s = none ↔ cnt f (n + 1) s = 0
  counts : ∃ m, MapIs 9 w (B + 2) (Cn (cnt f n)) m
  bel : Below B w0 w
  big : B + 3 ≤ w.heap.size

theorem Mid1.keep {B : Nat} {f : Nat → ByteArray} {w0 w w' : World} {σ : ByteArray → Option Nat} {n b : Nat} (h : Mid1 B f w0 w σ n b) (g : Kept (fun _ => False) w w') : Mid1 B f w0 w' σ n b := by
  obtain ⟨m, hm⟩ := h.counts
  exact ⟨h.store.keep g (fun x => x) (fun x => x) (fun _ _ _ x => x), h.dom, h.here, ⟨m, hm.keep g (fun x => x)⟩, g.below h.bel (by have := h.big; omega) (fun _ x => x.elim), Nat.le_trans h.big g.size⟩

theorem Mid1.late {B : Nat} {f : Nat → ByteArray} {w0 w w' : World} {σ : ByteArray → Option Nat} {n b : Nat} (h : Mid1 B f w0 w σ n b) (g : Kept (fun k => k = b) w w')
    (ho : ObjIs w' b (fun u => u = kv kK (f n) (itoa n) ∨ keys f n (f n) u) (cnt f n (f n) + 1)) : Late1 B f w0 w' σ n := by
  obtain ⟨m, hm⟩ := h.counts
  have hge := h.store.ge _ _ h.here
  refine ⟨(h.store.setObj h.here g ho).congr fun s b' _ => ?_, fun s => ?_, ⟨m, hm.keep g (fun e => hge.2 (by omega))⟩, g.below h.bel (by have := h.big; omega) (fun k e => by have := hge.1; omega), Nat.le_trans h.big g.size⟩
  · by_cases e : s = f n
    · subst e
      refine ⟨fun x => ?_, ?_⟩
      · rw [if_pos rfl]; exact (keys_succ f n x).symm
      · rw [if_pos rfl, cnt_succ, if_pos rfl]
    · refine ⟨fun x => ?_, ?_⟩
      · rw [if_neg e]; exact (keys_succ_other f n e x).symm
      · rw [if_neg e, cnt_succ, if_neg e]
  · by_cases e : s = f n
    · subst e
      rw [h.here, cnt_succ, if_pos rfl]
      exact ⟨fun x => (by cases x), fun x => by omega⟩
    · rw [h.dom s e, cnt_succ, if_neg e]

theorem Late1.next {B : Nat} {f : Nat → ByteArray} {w0 w w' : World} {σ : ByteArray → Option Nat} {n m : Nat} (h : Late1 B f w0 w σ n) (g : Kept (fun k => k = B + 2) w w')
    (hm : MapIs 9 w' (B + 2) (fun y u => (y = .string (f n) ∧ u = .int .i64 ((cnt f n (f n) : Int) + 1)) ∨ (y ≠ .string (f n) ∧ Cn (cnt f n) y u)) m) : In1 B f w0 w' σ (n + 1) := by
  refine ⟨h.store.keep g (by omega) (by omega) (fun s b hb e => (h.store.ge s b hb).2 (by omega)), h.dom, ⟨m, hm.congr (Cn_succ f n)⟩, g.below h.bel (by have := h.big; omega) (fun k e => by omega), Nat.le_trans h.big g.size⟩

set_option maxHeartbeats 400000 in
/-- the map of the next object's namespace -/
theorem to9_build {B : Nat} {f : Nat → ByteArray} {w0 w : World} {σ : ByteArray → Option Nat} {n : Nat} (h : In1 B f w0 w σ n) (hs : (f n).size ≤ maxLen) :
    Calls Try.prog 9 #[.pointer (some ⟨B + 1, 0, none⟩), .string (f n)] w fun e w' => ∃ b σ', e = .returned (.map (some b)) ∧ Mid1 B f w0 w' σ' n b := by
  obtain ⟨m, hm⟩ := h.counts
  cases hσ : σ (f n) with
  | none =>
    refine (to9_new h.store (f n) hs hσ).mono ?_
    rintro e w' ⟨rfl, g, hz, hst⟩
    have hc0 : cnt f n (f n) = 0 := (h.dom _).1 hσ
    refine ⟨w.heap.size, _, rfl, hst.congr fun s b _ => ?_, fun s e => ?_, by simp, ⟨m, hm.keep g (by omega)⟩, g.below h.bel (by have := h.big; omega) (fun k e => by omega), Nat.le_trans h.big g.size⟩
    · by_cases e : s = f n
      · subst e
        refine ⟨fun x => ?_, ?_⟩
        · rw [if_pos rfl]
          refine ⟨fun x => x.elim, ?_⟩
          rintro ⟨i, hi, h1, _⟩
          exact (cnt_zero_iff f n (f n)).1 hc0 i hi h1
        · rw [if_pos rfl, hc0]
      · refine ⟨fun x => ?_, ?_⟩
        · rw [if_neg e]
        · rw [if_neg e]
    · show (if s = f n then some w.heap.size else σ s) = none ↔ _
      rw [if_neg e]
      exact h.dom s
  | some b =>
    refine (to9_old h.store (f n) hs hσ).mono ?_
    rintro e w' ⟨rfl, rfl⟩
    exact ⟨b, σ, rfl, h.store, fun s _ => h.dom s, hσ, h.counts, h.bel, h.big⟩
end Go.Proofs.Qxb6613136a
