/-
  The walk of FnSpaceToChangeTwiceGivesOneMap; what one call of spaceToChange does to what zzStB1Build made.
-/
import Derived.Test.Qxb6613136aBuild
namespace Go.Proofs.Qxb6613136a
open Go.RowKit Go.Maps
set_option maxRecDepth 100000

/-- BEHIND ONE CALL of spaceToChange(ns): mb is the block of ns's map now. -/
structure After (B hd : Nat) (ns : ByteArray) (f0 : Nat → ByteArray) (l0 : Nat) (f1 : Nat → ByteArray) (l1 : Nat) (w0 w' : World) (σ σ2 : ByteArray → Option Nat) (τ2 : ByteArray → Bool) (mb : Nat) : Prop where
  store : Store B (X2 B hd) w' (B + 1) B (some hd) σ2 (keys f0 l0) (cnt f0 l0)
  here : σ2 ns = some mb
  other : ∀ s, s ≠ ns → σ2 s = σ s
  shared : ∃ m, MapIs 9 w' hd (Sh τ2) m
  tns : τ2 ns = false
  tother : ∀ s, s ≠ ns → τ2 s = tau (cnt f0 l0) f1 l1 s
  counts : ∃ m, MapIs 9 w' (B + 2) (Cn (cnt f0 l0)) m
  kept : ∃ m, MapIs 9 w' (hd + 1) (Sh (tau (cnt f0 l0) f1 l1)) m
  old : ∀ b, σ ns = some b → ObjIs w' b (keys f0 l0 ns) (cnt f0 l0 ns)
  own : tau (cnt f0 l0) f1 l1 ns = false → ∀ b, σ ns = some b → b = mb
  new : tau (cnt f0 l0) f1 l1 ns = true → ∀ b, σ ns = some b → b ≠ mb
  dom : ∀ s, s ≠ ns → (σ2 s = none ↔ cnt f0 l0 s = 0)
  hge : B + 3 ≤ hd
  big : hd + 2 ≤ w'.heap.size
  bel : Below B w0 w'

set_option maxHeartbeats 400000 in
theorem to9_law {B hd : Nat} {f0 : Nat → ByteArray} {l0 : Nat} {f1 : Nat → ByteArray} {l1 : Nat} {w0 w : World} {σ : ByteArray → Option Nat} (h : In2 B f0 l0 f1 w0 w (some hd) hd σ l1) (ns : ByteArray) (hns : ns.size ≤ maxLen) :
    Calls Try.prog 9 #[.pointer (some ⟨B + 1, 0, none⟩), .string ns] w fun e w' => ∃ mb σ2 τ2, e = .returned (.map (some mb)) ∧ After B hd ns f0 l0 f1 l1 w0 w' σ σ2 τ2 mb := by
  obtain ⟨m1, hm1⟩ := h.handed
  obtain ⟨m2, hm2⟩ := h.kept
  obtain ⟨m3, hm3⟩ := h.counts
  have hge := h.hge
  have hbig := h.big
  cases hσ : σ ns with
  | none =>
    have hc0 : cnt f0 l0 ns = 0 := (h.dom _).1 hσ
    have ht : tau (cnt f0 l0) f1 l1 ns = false := by
      cases hh : tau (cnt f0 l0) f1 l1 ns with
      | false => rfl
      | true => have := tau_pos hh; omega
    refine (to9_new h.store ns hns hσ).mono ?_
    rintro e w' ⟨rfl, g, hz, hst⟩
    refine ⟨w.heap.size, _, tau (cnt f0 l0) f1 l1, rfl, hst.congr fun s b _ => ?_, by simp, fun s hs => by simp [hs], ⟨m1, hm1.keep g (by omega)⟩, ht, fun _ _ => rfl, ⟨m3, hm3.keep g (by omega)⟩, ⟨m2, hm2.keep g (by omega)⟩, fun b hb => (by rw [hσ] at hb; cases hb), fun _ b hb => (by rw [hσ] at hb; cases hb), fun _ b hb => (by rw [hσ] at hb; cases hb), fun s hs => ?_, hge, Nat.le_trans hbig g.size, g.below h.bel (by omega) (fun k e => by omega)⟩
    · by_cases e : s = ns
      · subst e
        refine ⟨fun x => ?_, ?_⟩
        · rw [if_pos rfl]
          refine ⟨fun x => x.elim, ?_⟩
          rintro ⟨i, hi, g1, _⟩
          exact (cnt_zero_iff f0 l0 s).1 hc0 i hi g1
        · rw [if_pos rfl, hc0]
      · refine ⟨fun x => ?_, ?_⟩
        · rw [if_neg e]
        · rw [if_neg e]
    · show (if s = ns then some w.heap.size else σ s) = none ↔ _
      rw [if_neg hs]
      exact h.dom s
  | some b =>
    cases ht : tau (cnt f0 l0) f1 l1 ns with
    | false =>
      refine (to9_own h.store hm1 ns hns ht hσ).mono ?_
      rintro e w' ⟨rfl, rfl⟩
      exact ⟨b, σ, tau (cnt f0 l0) f1 l1, rfl, h.store, hσ, fun _ _ => rfl, h.handed, ht, fun _ _ => rfl, h.counts, h.kept, fun b' hb => h.store.obj ns b' hb, fun _ b' hb => (by rw [hσ] at hb; exact (Option.some.inj hb).symm), fun hh => (by rw [ht] at hh; cases hh), fun s _ => h.dom s, hge, hbig, h.bel⟩
    | true =>
      refine (to9_shared h.store hm1 ns hns ht hσ).mono ?_
      rintro e w' ⟨rfl, g, hz, hst, m', hm'⟩
      have hbx := (h.store.ge ns b hσ)
      have hob := h.store.obj ns b hσ
      have hlt := hob.lt
      have nb : ¬ (b = B ∨ some hd = some b) := by
        rintro (e | e)
        · exact hbx.2 (.inl ⟨by omega, by omega⟩)
        · cases e; exact hbx.2 (.inr (.inl rfl))
      have n2 : ¬ (B + 2 = B ∨ some hd = some (B + 2)) := by
        rintro (e | e)
        · omega
        · cases e; omega
      have n3 : ¬ (hd + 1 = B ∨ some hd = some (hd + 1)) := by
        rintro (e | e)
        · omega
        · have := Option.some.inj e; omega
      refine ⟨w.heap.size, _, _, rfl, hst.congr fun s b _ => ?_, by simp, fun s hs => by simp [hs], ⟨m', hm'⟩, by simp, fun s hs => by simp [hs], ⟨m3, hm3.keep g n2⟩, ⟨m2, hm2.keep g n3⟩, fun b' hb => ?_, fun hh => (by rw [ht] at hh; cases hh), fun _ b' hb => ?_, fun s hs => ?_, hge, Nat.le_trans hbig g.size, g.below h.bel (by omega) (fun k e => ?_)⟩
      · by_cases e : s = ns
        · subst e
          exact ⟨fun x => by rw [if_pos rfl], by rw [if_pos rfl]⟩
        · exact ⟨fun x => by rw [if_neg e], by rw [if_neg e]⟩
      · rw [hσ] at hb
        cases hb
        exact hob.keep g nb
      · rw [hσ] at hb
        cases hb
        omega
      · show (if s = ns then some w.heap.size else σ s) = none ↔ _
        rw [if_neg hs]
        exact h.dom s
      · rcases e with e | e
        · omega
        · have := Option.some.inj e; omega

/-- the name of the last object: the one letter x -/
def kX : ByteArray := ⟨#[120]⟩

theorem After.put {B hd : Nat} {ns : ByteArray} {f0 : Nat → ByteArray} {l0 : Nat} {f1 : Nat → ByteArray} {l1 : Nat} {w0 w w' : World} {σ σ2 : ByteArray → Option Nat} {τ2 : ByteArray → Bool} {mb : Nat}
    (h : After B hd ns f0 l0 f1 l1 w0 w σ σ2 τ2 mb) (g : Kept (fun k => k = mb) w w') (ho : ObjIs w' mb (fun u => u = kv kK ns kX ∨ keys f0 l0 ns u) (cnt f0 l0 ns + 1)) :
    Store B (X2 B hd) w' (B + 1) B (some hd) σ2 (fun s x => if s = ns then (x = kv kK ns kX ∨ keys f0 l0 ns x) else keys f0 l0 s x) (fun s => if s = ns then cnt f0 l0 ns + 1 else cnt f0 l0 s) ∧
    (∃ m, MapIs 9 w' hd (Sh τ2) m) ∧ (∃ m, MapIs 9 w' (B + 2) (Cn (cnt f0 l0)) m) ∧ (∃ m, MapIs 9 w' (hd + 1) (Sh (tau (cnt f0 l0) f1 l1)) m) ∧ Below B w0 w' := by
  obtain ⟨m1, h1⟩ := h.shared
  obtain ⟨m2, h2⟩ := h.counts
  obtain ⟨m3, h3⟩ := h.kept
  have hx := (h.store.ge ns mb h.here)
  have hge := h.hge
  have hbig := h.big
  refine ⟨h.store.setObj h.here g ho, ⟨m1, h1.keep g fun e => hx.2 (.inr (.inl e.symm))⟩, ⟨m2, h2.keep g fun e => hx.2 (.inl ⟨by omega, by omega⟩)⟩, ⟨m3, h3.keep g fun e => hx.2 (.inr (.inr e.symm))⟩, g.below h.bel (by omega) (fun k e => by have := hx.1; omega)⟩

set_option maxHeartbeats 2000000 in
theorem twice4 (a0 a1 : Option Addr) (l0 c0 l1 c1 : Nat) (f0 f1 : Nat → ByteArray) (ns : ByteArray) (w : World) (h0 : StrsAt w a0 l0 f0) (h1 : StrsAt w a1 l1 f1) (hns : ns.size ≤ maxLen) :
    Calls Try.prog 4 #[.slice a0 l0 c0, .slice a1 l1 c1, .string ns] w fun e w' => e = .returned (.bool true) ∧ Below w.heap.size w w' := by
  go_enter Try.func4, Try.ntmps4
  go_wp2_with fail
  refine (bytes15 a0 a1 l0 c0 l1 c1 f0 f1 ns w h0 h1 hns).mono ?_
  rintro e w' ⟨⟨r, rfl, hr⟩, rfl⟩
  cases r with
  | false =>
    go_wp2_with fail
    go_ret
    exact ⟨rfl, Below.refl _ _⟩
  | true =>
    obtain ⟨m0, m1, s0, s1, hn1⟩ := hr rfl
    clear hr
    go_wp2_with fail
    refine (tooBig6 a0 a1 l0 c0 l1 c1 f0 f1 ns w h0 h1 s0 s1 hn1 m0 m1).mono ?_
    rintro e w' ⟨⟨r, rfl, _⟩, rfl⟩
    cases r with
    | true =>
      go_wp2_with fail
      go_ret
      exact ⟨rfl, Below.refl _ _⟩
    | false =>
      go_wp2_with fail
      refine (build7 a0 a1 l0 c0 l1 c1 f0 f1 w h0 h1 m0 m1).mono ?_
      rintro e w1 ⟨hd, σ, rfl, hin⟩
      clear h0 h1 s0 s1
      obtain ⟨q1, hq1⟩ := hin.counts
      obtain ⟨q2, hq2⟩ := hin.kept
      have e1 := look_count hq1 hns
      have e2 := look_shared hq2 hns
      go_wp2_with fail
      refine (space8 hin.store ns hns).mono ?_
      rintro e w' ⟨rfl, rfl⟩
      go_wp2_with fail
      refine (to9_law hin ns hns).mono ?_
      rintro e w2 ⟨mb, σ2, τ2, rfl, ha⟩
      clear hq1 hq2 e1 e2
      obtain ⟨q3, hq3⟩ := ha.shared
      go_wp2_with fail
      refine (to9_own ha.store hq3 ns hns ha.tns ha.here).mono ?_
      rintro e w' ⟨rfl, rfl⟩
      clear hq3
      have ho2 := ha.store.obj ns mb ha.here
      have hlen : ∀ ty, (Builtin.len_ #[29] ty #[.map (some mb)]).run Try.prog w2 = .ok (.int .i64 (cnt f0 l0 ns)) w2 := by
        obtain ⟨R, hR, _⟩ := ho2
        exact fun ty => hR.len (t := 29) Try.underlying29 ty
      have hq := fun w r => run_eql_map_nil (P := Try.prog) w 29 _ _ r Try.underlying29
      have cb := cnt_le f0 l0 ns
      have cb' : (cnt f0 l0 ns : Int) ≤ 1048576 := by omega
      go_wp2_with fail
      refine (setIn10 ho2 ⟨#[75]⟩ ns ⟨#[120]⟩ (by decide) hns (by decide) (key_x f0 l0 ns)).mono ?_
      rintro e w3 ⟨rfl, k3, z3, ho3⟩
      obtain ⟨hst3, ⟨q4, hq4⟩, _, _, bel3⟩ := ha.put k3 ho3
      clear ho2 hlen z3
      have hlen3 : ∀ ty, (Builtin.len_ #[29] ty #[.map (some mb)]).run Try.prog w3 = .ok (.int .i64 ((cnt f0 l0 ns : Int) + 1)) w3 := by
        obtain ⟨R, hR, _⟩ := ho3
        exact fun ty => hR.len (t := 29) Try.underlying29 ty
      go_wp2_with fail
      refine (mapHas12 ho3 ⟨#[75]⟩ ns ⟨#[120]⟩ (by decide) hns (by decide) (.inl rfl)).mono ?_
      rintro e w' ⟨rfl, rfl⟩
      go_wp2_with fail
      refine (has11 hst3 ⟨#[75]⟩ ns ⟨#[120]⟩ (by decide) hns (by decide) ha.here (by rw [if_pos rfl]; exact .inl rfl)).mono ?_
      rintro e w4 ⟨rfl, k4, z4⟩
      clear z4 hlen3
      have bel4 := k4.below bel3 (by have := ha.big; have := ha.hge; have := k3.size; omega) (fun _ x => x.elim)
      have hst4 := hst3.keep k4 (fun x => x) (fun x => x) (fun _ _ _ x => x)
      have hq5 := hq4.keep k4 (fun x => x)
      have ht := ha.tns
      cases hσ : σ ns with
      | none =>
        have hc0 : cnt f0 l0 ns = 0 := (hin.dom _).1 hσ
        have hc1 : ¬ (0 : Int) < (cnt f0 l0 ns : Int) := by omega
        clear hc0
        go_wp2_with (go_at_call 13; refine (isShared13 hst4 hq5 ns hns).mono ?_; rintro e w' ⟨rfl, rfl⟩)
        go_ret
        exact ⟨rfl, bel4⟩
      | some b =>
        have hc1 : (0 : Int) < (cnt f0 l0 ns : Int) := by
          rcases Nat.eq_zero_or_pos (cnt f0 l0 ns) with x | x
          · rw [(hin.dom ns).2 x] at hσ; cases hσ
          · omega
        cases htau : tau (cnt f0 l0) f1 l1 ns with
        | false =>
          obtain rfl := ha.own htau b hσ
          have ho4 := ho3.keep k4 (fun x => x)
          go_wp2_with (first
            | (go_at_call 12; refine (mapHas12 ho4 ⟨#[75]⟩ ns ⟨#[120]⟩ (by decide) hns (by decide) (.inl rfl)).mono ?_; rintro e w' ⟨rfl, rfl⟩)
            | (go_at_call 13; refine (isShared13 hst4 hq5 ns hns).mono ?_; rintro e w' ⟨rfl, rfl⟩))
          go_ret
          exact ⟨rfl, bel4⟩
        | true =>
          have hne := ha.new htau b hσ
          have ho4 := ((ha.old b hσ).keep k3 hne).keep k4 (fun x => x)
          go_wp2_with (first
            | (go_at_call 12; refine (mapHasNot12 ho4 ⟨#[75]⟩ ns ⟨#[120]⟩ (by decide) hns (by decide) (key_x f0 l0 ns)).mono ?_; rintro e w' ⟨rfl, rfl⟩)
            | (go_at_call 13; refine (isShared13 hst4 hq5 ns hns).mono ?_; rintro e w' ⟨rfl, rfl⟩))
          go_ret
          exact ⟨rfl, bel4⟩
end Go.Proofs.Qxb6613136a
