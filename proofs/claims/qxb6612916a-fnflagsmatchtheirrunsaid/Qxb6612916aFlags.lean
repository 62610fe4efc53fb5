import Derived.Test.Qxb6612916aRows
import Derived.Test.Qxb6612916aFlagsPlain
import Derived.WalkKit
import Derived.WalkSpells
import Derived.WalkLawsBesides
import Derived.Deep.LoopGhost
import Derived.Deep.QuietTactic
import Derived.BigQuiet
import Derived.Outline
namespace Go.Proofs.Qxb6612916a
open Go.RowKit
open Pl

/-- WHAT THE READER OF FLAGS MAY TURN: cell 2 of block br (the reader's place), cells 1 to 5 of block bv (the verb's flags). -/
structure Flagged (br bv : Nat) (w w' : World) : Prop where
  os : w'.os = w.os
  tape : w'.tape = w.tape
  output : w'.output = w.output
  size : w'.heap.size = w.heap.size
  block : ∀ k, k ≠ br → k ≠ bv → w'.heap[k]? = w.heap[k]?
  frozen : ∀ a, w'.frozen? a = w.frozen? a
  rcell : ∀ o, o ≠ 2 → w'.cell? ⟨br, o, none⟩ = w.cell? ⟨br, o, none⟩
  vcell : ∀ o, (o = 0 ∨ 5 < o) → w'.cell? ⟨bv, o, none⟩ = w.cell? ⟨bv, o, none⟩

/-- the reader stands at n -/
structure AtF (s : ByteArray) (k br bv : Nat) (a b c d f : Bool) (w wr : World) (n : Nat) : Prop where
  all : k ≤ n ∧ n ≤ s.size ∧ (∀ i, k ≤ i → i < n → fl (bt s i) = true) ∧ Flagged br bv w wr ∧
      wr.cell? ⟨br, 2, none⟩ = some (.int .i64 n) ∧ wr.cell? ⟨bv, 1, none⟩ = some (.bool (a || saw s 35 k n)) ∧ wr.cell? ⟨bv, 2, none⟩ = some (.bool (b || saw s 48 k n)) ∧
      wr.cell? ⟨bv, 3, none⟩ = some (.bool (c || saw s 43 k n)) ∧ wr.cell? ⟨bv, 4, none⟩ = some (.bool (d || saw s 45 k n)) ∧ wr.cell? ⟨bv, 5, none⟩ = some (.bool (f || saw s 32 k n))

theorem Flagged.refl (br bv : Nat) (w : World) : Flagged br bv w w := ⟨rfl, rfl, rfl, rfl, fun _ _ _ => rfl, fun _ => rfl, fun _ _ => rfl, fun _ _ => rfl⟩
theorem Flagged.drewN {br bv : Nat} {w w' : World} (h : Flagged br bv w w') (m : Nat) : Flagged br bv w (w'.drewN m) := ⟨h.os, h.tape, h.output, h.size, h.block, h.frozen, h.rcell, h.vcell⟩
theorem Flagged.setR {br bv : Nat} {w w' : World} (h : Flagged br bv w w') (_hne : br ≠ bv) (x : Value) : Flagged br bv w (w'.setCell ⟨br, 2, none⟩ x) :=
  ⟨h.os, h.tape, h.output, by rw [World.size_setCell]; exact h.size, fun k h1 h2 => (Below.heap_setCell _ _ _ _ h1).trans (h.block k h1 h2), fun a => by rw [World.frozen?_setCell]; exact h.frozen a,
   fun o ho => by rw [World.cell?_setCell_other _ _ _ _ (by simp <;> omega)]; exact h.rcell o ho, fun o ho => by rw [World.cell?_setCell_other _ _ _ _ (by simp <;> omega)]; exact h.vcell o ho⟩
theorem Flagged.setV {br bv : Nat} {w w' : World} (h : Flagged br bv w w') (hne : br ≠ bv) (o : Nat) (h1 : 1 ≤ o) (h5 : o ≤ 5) (x : Value) : Flagged br bv w (w'.setCell ⟨bv, o, none⟩ x) :=
  ⟨h.os, h.tape, h.output, by rw [World.size_setCell]; exact h.size, fun k g1 g2 => (Below.heap_setCell _ _ _ _ g2).trans (h.block k g1 g2), fun a => by rw [World.frozen?_setCell]; exact h.frozen a,
   fun o ho => by rw [World.cell?_setCell_other _ _ _ _ (by simp <;> omega)]; exact h.rcell o ho, fun o ho => by rw [World.cell?_setCell_other _ _ _ _ (by simp <;> omega)]; exact h.vcell o ho⟩

theorem cellV {br bv : Nat} {w : World} (hne : br ≠ bv) (o i : Nat) (m : Nat) (x y : Value) {v : Value} (h : w.cell? ⟨bv, i, none⟩ = some v) :
    (((w.drewN m).setCell ⟨bv, o, none⟩ x).setCell ⟨br, 2, none⟩ y).cell? ⟨bv, i, none⟩ = if i = o then some x else some v := by
  rw [World.cell?_setCell_other _ _ _ _ (by simp <;> omega)]
  by_cases e : i = o
  · subst e
    rw [if_pos rfl]
    exact World.cell?_setCell_same _ _ _ (u := v) h
  · rw [if_neg e, World.cell?_setCell_other _ _ _ _ (by simp <;> omega)]
    exact h

theorem AtF.step {s : ByteArray} {k br bv : Nat} {a b c d f : Bool} {w wr : World} {n : Nat} (h : AtF s k br bv a b c d f w wr n) (hlt : n < s.size) (hne : br ≠ bv) (o m : Nat)
    (hb : (o = 1 ∧ bt s n = 35) ∨ (o = 2 ∧ bt s n = 48) ∨ (o = 3 ∧ bt s n = 43) ∨ (o = 4 ∧ bt s n = 45) ∨ (o = 5 ∧ bt s n = 32)) :
    AtF s k br bv a b c d f w (((wr.drewN m).setCell ⟨bv, o, none⟩ (.bool true)).setCell ⟨br, 2, none⟩ (.int .i64 ((n : Int) + 1))) (n + 1) := by
  obtain ⟨h1, h2, h3, h4, r2, u1, u2, u3, u4, u5⟩ := h.all
  refine ⟨by omega, by omega, ?_, ((h4.drewN m).setV hne o (by omega) (by omega) _).setR hne _, ?_, ?_, ?_, ?_, ?_, ?_⟩
  · intro i x y
    by_cases e : i = n
    · rw [e, fl_iff]; omega
    · exact h3 i x (by omega)
  · rw [World.cell?_setCell_same _ _ _ (u := .int .i64 n) (by rw [World.cell?_setCell_other _ _ _ _ (by simp <;> omega)]; exact r2)]
    rfl
  all_goals
    rw [cellV hne o _ m _ _ (by assumption), saw_succ h1]
    rcases hb with ⟨rfl, hb⟩ | ⟨rfl, hb⟩ | ⟨rfl, hb⟩ | ⟨rfl, hb⟩ | ⟨rfl, hb⟩ <;> simp [hb]

theorem byteIs {s : ByteArray} {n : Nat} (hlt : n < s.size) {x : Nat} (h : (((s[n]'hlt).toNat : Int) == (x : Int)) = true) : bt s n = x := by
  rw [bt_get s n hlt]
  have := beq_iff_eq.1 h
  omega
theorem byteNo {s : ByteArray} {n : Nat} (hlt : n < s.size) {x : Nat} (h : (((s[n]'hlt).toNat : Int) == (x : Int)) = false) : bt s n ≠ x := by
  rw [bt_get s n hlt]
  have := beq_eq_false_iff_ne.1 h
  omega

set_option maxHeartbeats 400000 in
theorem flags_any (s : ByteArray) (hs : s.size ≤ 1048576) (k : Nat) (hk : k ≤ s.size) (br bv : Nat) (hne : br ≠ bv) (a b c d f : Bool) (w : World)
    (c0 : w.cell? ⟨br, 0, none⟩ = some (.string s)) (c2 : w.cell? ⟨br, 2, none⟩ = some (.int .i64 k))
    (z2 : w.frozen? ⟨br, 2, none⟩ = false)
    (z : ∀ o, w.frozen? ⟨bv, o, none⟩ = false)
    (v1 : w.cell? ⟨bv, 1, none⟩ = some (.bool a)) (v2 : w.cell? ⟨bv, 2, none⟩ = some (.bool b)) (v3 : w.cell? ⟨bv, 3, none⟩ = some (.bool c))
    (v4 : w.cell? ⟨bv, 4, none⟩ = some (.bool d)) (v5 : w.cell? ⟨bv, 5, none⟩ = some (.bool f)) :
    Calls Try.prog 23 #[.pointer (some ⟨br, 0, none⟩), .pointer (some ⟨bv, 0, none⟩)] w fun e w' => e = .returned (.tuple #[]) ∧ ∃ n : Nat, Run s k n ∧ Flagged br bv w w' ∧
      w'.cell? ⟨br, 2, none⟩ = some (.int .i64 n) ∧ w'.cell? ⟨bv, 1, none⟩ = some (.bool (a || saw s 35 k n)) ∧ w'.cell? ⟨bv, 2, none⟩ = some (.bool (b || saw s 48 k n)) ∧
      w'.cell? ⟨bv, 3, none⟩ = some (.bool (c || saw s 43 k n)) ∧ w'.cell? ⟨bv, 4, none⟩ = some (.bool (d || saw s 45 k n)) ∧ w'.cell? ⟨bv, 5, none⟩ = some (.bool (f || saw s 32 k n)) := by
  go_enter Try.func23, Try.ntmps23
  go_wp2
  go_loopg [] (s.size - k) (fun m wr => ∃ n : Nat, m = s.size - n ∧ AtF s k br bv a b c d f w wr n)
  case atStart => exact ⟨k, rfl, Nat.le_refl _, hk, fun i x y => by omega, Flagged.refl _ _ _, c2, by rw [saw_same, Bool.or_false]; exact v1, by rw [saw_same, Bool.or_false]; exact v2, by rw [saw_same, Bool.or_false]; exact v3, by rw [saw_same, Bool.or_false]; exact v4, by rw [saw_same, Bool.or_false]; exact v5⟩
  case round =>
    obtain ⟨n, rfl, hat⟩ := hrel
    obtain ⟨hn1, hn2, hfl, hF, r2, u1, u2, u3, u4, u5⟩ := hat.all
    have r0 : wr.cell? ⟨br, 0, none⟩ = some (.string s) := (hF.rcell 0 (by decide)).trans c0
    have y2 : wr.frozen? ⟨br, 2, none⟩ = false := (hF.frozen _).trans z2
    have y : ∀ o, wr.frozen? ⟨bv, o, none⟩ = false := fun o => (hF.frozen _).trans (z o)
    clear c0 c2 z2 z v1 v2 v3 v4 v5
    by_cases hlt : n < s.size
    · have hlt' : (n : Int) < (s.size : Int) := by omega
      go_wp2
      go_quiet (fail)
      go_wp2
      go_quiet (fail)
      go_wp2
      case _ => go_roundg (s.size - (n + 1)); (case measure => omega); (case rel => exact ⟨n + 1, rfl, hat.step hlt hne 1 _ (by have := byteIs hlt (x := 35) (by assumption); omega)⟩)
      case _ => go_roundg (s.size - (n + 1)); (case measure => omega); (case rel => exact ⟨n + 1, rfl, hat.step hlt hne 2 _ (by have := byteIs hlt (x := 48) (by assumption); omega)⟩)
      case _ => go_roundg (s.size - (n + 1)); (case measure => omega); (case rel => exact ⟨n + 1, rfl, hat.step hlt hne 3 _ (by have := byteIs hlt (x := 43) (by assumption); omega)⟩)
      case _ => go_roundg (s.size - (n + 1)); (case measure => omega); (case rel => exact ⟨n + 1, rfl, hat.step hlt hne 4 _ (by have := byteIs hlt (x := 45) (by assumption); omega)⟩)
      case _ => go_roundg (s.size - (n + 1)); (case measure => omega); (case rel => exact ⟨n + 1, rfl, hat.step hlt hne 5 _ (by have := byteIs hlt (x := 32) (by assumption); omega)⟩)
      have g1 := byteNo hlt (x := 35) (by assumption)
      have g2 := byteNo hlt (x := 48) (by assumption)
      have g3 := byteNo hlt (x := 43) (by assumption)
      have g4 := byteNo hlt (x := 45) (by assumption)
      have g5 := byteNo hlt (x := 32) (by assumption)
      refine bodyPost_ret (results_none rfl _ _ _) rfl ?_
      exact ⟨rfl, n, ⟨hn1, hn2, hfl, fun _ => by rw [Bool.eq_false_iff]; intro hh; rw [fl_iff] at hh; omega⟩, hF.drewN _, r2, u1, u2, u3, u4, u5⟩
    · have hge : n = s.size := by omega
      have hlt' : ¬ (n : Int) < (s.size : Int) := by omega
      clear hge
      go_wp2
      go_quiet (fail)
      go_wp2
      go_end0
      exact ⟨rfl, n, ⟨hn1, hn2, hfl, fun g => by omega⟩, hF.drewN _, r2, u1, u2, u3, u4, u5⟩
end Go.Proofs.Qxb6612916a
