/-
  The walk of zzStB1Build.
-/
import Derived.Test.Qxb6613136aBuildParts
import Derived.Deep.LoopGhost
import Derived.Deep.RegionWith
import Derived.BigRegion
namespace Go.Proofs.Qxb6613136a
open Go.RowKit Go.Maps
set_option maxRecDepth 100000

/-- the blocks that are no space's -/
def X2 (B hd k : Nat) : Prop := (B ≤ k ∧ k < B + 3) ∨ k = hd ∨ k = hd + 1

/-- WHAT HOLDS AT THE SECOND LOOP's HEAD; behind it (sh: the store's shared map) -/
structure In2 (B : Nat) (f0 : Nat → ByteArray) (l0 : Nat) (f1 : Nat → ByteArray) (w0 w : World) (sh : Option Nat) (hd : Nat) (σ : ByteArray → Option Nat) (j : Nat) : Prop where
  store : Store B (X2 B hd) w (B + 1) B sh σ (keys f0 l0) (cnt f0 l0)
  dom : ∀ s, σ s = none ↔ cnt f0 l0 s = 0
  counts : ∃ m, MapIs 9 w (B + 2) (Cn (cnt f0 l0)) m
  handed : ∃ m, MapIs 9 w hd (Sh (tau (cnt f0 l0) f1 j)) m
  kept : ∃ m, MapIs 9 w (hd + 1) (Sh (tau (cnt f0 l0) f1 j)) m
  bel : Below B w0 w
  hge : B + 3 ≤ hd
  big : hd + 2 ≤ w.heap.size

theorem In2.start {B : Nat} {f0 : Nat → ByteArray} {l0 : Nat} {w0 w : World} {σ : ByteArray → Option Nat} (f1 : Nat → ByteArray) (h : In1 B f0 w0 w σ l0) :
    In2 B f0 l0 f1 w0 ((w.alloc (.map #[] 0)).alloc (.map #[] 0)) none w.heap.size σ 0 := by
  have g : Kept (fun _ => False) w ((w.alloc (.map #[] 0)).alloc (.map #[] 0)) := (Kept.alloc _ _ _).trans (Kept.alloc _ _ _)
  obtain ⟨m, hm⟩ := h.counts
  have hsz : ((w.alloc (.map #[] 0)).alloc (.map #[] 0)).heap.size = w.heap.size + 2 := by simp
  have hz : ∀ x v, (fun _ _ => False) x v ↔ Sh (tau (cnt f0 l0) f1 0) x v := fun x v => ⟨fun f => f.elim, by rintro ⟨s, _, hs, _⟩; cases hs⟩
  refine ⟨(h.store.keep g (fun x => x) (fun x => x) (fun _ _ _ x => x)).extend (fun k hk => .inl hk) (fun k hk => ?_) (fun s b hb hk => ?_), h.dom, ⟨m, hm.keep g (fun x => x)⟩, ⟨0, ?_⟩, ⟨0, ?_⟩, g.below h.bel (by have := h.big; omega) (fun _ x => x.elim), h.big, by omega⟩
  · have := h.big
    rw [hsz]
    rcases hk with hk | hk | hk <;> omega
  · have hlt := (h.store.obj s b hb).lt
    have hge := (h.store.ge s b hb).2
    rcases hk with hk | hk | hk
    · exact hge hk
    · omega
    · omega
  · exact ((MapIs.made w 9).keep (Kept.alloc (fun _ => False) _ _) (fun x => x)).congr hz
  · have := (MapIs.made (w.alloc (.map #[] 0)) 9).congr hz
    rw [show (w.alloc (.map #[] 0)).heap.size = w.heap.size + 1 by simp] at this
    exact this

theorem In2.skip {B : Nat} {f0 f1 : Nat → ByteArray} {l0 : Nat} {w0 w : World} {hd : Nat} {sh : Option Nat} {σ : ByteArray → Option Nat} {j : Nat} (h : In2 B f0 l0 f1 w0 w sh hd σ j) (hno : ¬ 0 < cnt f0 l0 (f1 j)) : In2 B f0 l0 f1 w0 w sh hd σ (j + 1) := by
  obtain ⟨m1, h1⟩ := h.handed
  obtain ⟨m2, h2⟩ := h.kept
  exact ⟨h.store, h.dom, h.counts, ⟨m1, h1.congr (Sh_congr fun s => (tau_succ_no hno s).symm)⟩, ⟨m2, h2.congr (Sh_congr fun s => (tau_succ_no hno s).symm)⟩, h.bel, h.hge, h.big⟩

theorem In2.next {B : Nat} {f0 f1 : Nat → ByteArray} {l0 : Nat} {w0 w w1 w2 : World} {hd : Nat} {σ : ByteArray → Option Nat} {j m1 m2 : Nat} (h : In2 B f0 l0 f1 w0 w none hd σ j) (hyes : 0 < cnt f0 l0 (f1 j))
    (g1 : Kept (fun k => k = hd) w w1) (h1 : MapIs 9 w1 hd (fun y u => (y = .string (f1 j) ∧ u = .bool true) ∨ (y ≠ .string (f1 j) ∧ Sh (tau (cnt f0 l0) f1 j) y u)) m1)
    (g2 : Kept (fun k => k = hd + 1) w1 w2) (h2 : MapIs 9 w2 (hd + 1) (fun y u => (y = .string (f1 j) ∧ u = .bool true) ∨ (y ≠ .string (f1 j) ∧ Sh (tau (cnt f0 l0) f1 j) y u)) m2) : In2 B f0 l0 f1 w0 w2 none hd σ (j + 1) := by
  have g : Kept (fun k => k = hd ∨ k = hd + 1) w w2 := (g1.mono fun k e => .inl e).trans (g2.mono fun k e => .inr e)
  have hge := h.hge
  have hbig := h.big
  obtain ⟨m, hm⟩ := h.counts
  have hc : ∀ y u, ((y = .string (f1 j) ∧ u = .bool true) ∨ (y ≠ .string (f1 j) ∧ Sh (tau (cnt f0 l0) f1 j) y u)) ↔ Sh (tau (cnt f0 l0) f1 (j + 1)) y u := fun y u =>
    (Sh_put _ _ y u).trans (Sh_congr (fun s => (tau_succ_yes hyes s).symm) y u)
  refine ⟨h.store.keep g (by omega) (by omega) (fun s b hb e => (h.store.ge s b hb).2 ?_), h.dom, ⟨m, hm.keep g (by omega)⟩, ⟨m1, (h1.keep g2 (by omega)).congr hc⟩, ⟨m2, h2.congr hc⟩, g.below h.bel (by omega) (fun k e => by omega), hge, Nat.le_trans hbig g.size⟩
  rcases e with e | e
  · exact .inr (.inl e)
  · exact .inr (.inr e)

theorem In2.set {B : Nat} {f0 f1 : Nat → ByteArray} {l0 : Nat} {w0 w w' : World} {hd : Nat} {σ : ByteArray → Option Nat} {j : Nat} (h : In2 B f0 l0 f1 w0 w none hd σ j) (g : Kept (fun k => k = B + 1) w w')
    (hst : Store B (X2 B hd) w' (B + 1) B (some hd) σ (keys f0 l0) (cnt f0 l0)) : In2 B f0 l0 f1 w0 w' (some hd) hd σ j := by
  obtain ⟨m, hm⟩ := h.counts
  obtain ⟨m1, h1⟩ := h.handed
  obtain ⟨m2, h2⟩ := h.kept
  have hge := h.hge
  have hbig := h.big
  exact ⟨hst, h.dom, ⟨m, hm.keep g (by omega)⟩, ⟨m1, h1.keep g (by omega)⟩, ⟨m2, h2.keep g (by omega)⟩, g.below h.bel (by omega) (fun k e => by omega), hge, Nat.le_trans hbig g.size⟩

set_option maxHeartbeats 2000000 in
theorem build7 (a0 a1 : Option Addr) (l0 c0 l1 c1 : Nat) (f0 f1 : Nat → ByteArray) (w : World) (h0 : StrsAt w a0 l0 f0) (h1 : StrsAt w a1 l1 f1) (m0 : l0 ≤ 1048576) (m1 : l1 ≤ 1048576) :
    Calls Try.prog 7 #[.slice a0 l0 c0, .slice a1 l1 c1] w fun e w' => ∃ hd σ, e = .returned (.tuple #[.pointer (some ⟨w.heap.size + 1, 0, none⟩), .map (some (w.heap.size + 2)), .map (some (hd + 1)), .bool true]) ∧ In2 w.heap.size f0 l0 f1 w w' (some hd) hd σ l1 := by
  have hmm := @run_makeMap Try.prog
  go_enter Try.func7, Try.ntmps7
  go_wp2_with (go_at_call 16; refine (new16 _).mono ?_; rintro e w1 ⟨rfl, k1, z1, d1, d2, d3, mp1⟩)
  go_loopg [10, 11] l0 (fun q i mv wr => ∃ n σ, q = l0 - n ∧ n ≤ l0 ∧ i = .int .i64 (n : Nat) ∧ In1 w.heap.size f0 w wr σ n)
  case atStart =>
    have kk : Kept (fun _ => False) w (w1.alloc (.map #[] 0)) := k1.trans (Kept.alloc _ _ _)
    have ka : Kept (fun _ => False) w1 (w1.alloc (.map #[] 0)) := Kept.alloc _ _ _
    have hnone : ∀ x v, (fun _ _ => False) x v ↔ Sp (fun _ => none) x v := fun x v => ⟨fun f => f.elim, by rintro ⟨s, b, _, hs, _⟩; cases hs⟩
    have hnone2 : ∀ x v, (fun _ _ => False) x v ↔ Cn (cnt f0 0) x v := fun x v => ⟨fun f => f.elim, by rintro ⟨s, _, hs, _⟩; exact absurd hs (Nat.lt_irrefl 0)⟩
    have hsz : (w1.alloc (.map #[] 0)).heap.size = w.heap.size + 3 := by simp [z1]
    have hmade := (MapIs.made w1 9).congr hnone2
    rw [z1] at hmade
    exact ⟨0, fun _ => none, rfl, Nat.zero_le _, rfl, ⟨by omega, by omega, fun h e => (by cases e), fun k hk => by omega, by omega, fun h e => (by cases e), cell_keep d1 ka (by omega) (fun x => x), cell_keep d2 ka (by omega) (fun x => x), frozen_keep d3 ka (by omega) (fun x => x), ⟨0, (mp1.keep ka (fun x => x)).congr hnone⟩, fun _ _ _ h => (by cases h), fun _ _ h => (by cases h), fun _ _ h => (by cases h)⟩, fun s => ⟨fun _ => rfl, fun _ => rfl⟩, ⟨0, hmade⟩, kk.below (Below.refl _ _) (Nat.le_refl _) (fun _ x => x.elim), by omega⟩
  case round =>
    obtain ⟨n, σ, rfl, hn, rfl, hin⟩ := hrel
    by_cases hlt : n < l0
    · obtain ⟨b, off, rfl, hb, hc⟩ := h0.cell (by omega)
      have hck : ∀ wx, Below w.heap.size w wx → wx.cell? ⟨b, off + n, none⟩ = some (.string (f0 n)) := fun wx hbx => (hbx.cell (p := ⟨b, off + n, none⟩) hb).trans (hc n hlt)
      have hckr := hck wr hin.bel
      have hlt' : (n : Int) < (l0 : Int) := by omega
      have hsz := h0.size n hlt
      have HC : Hid (∀ wx, Below w.heap.size w wx → wx.cell? ⟨b, off + n, none⟩ = some (.string (f0 n))) := hck
      clear hck hc h0 h1 mp1 d1 d2 d3 z1
      have hq := fun w r => run_eql_map_nil (P := Try.prog) w 29 _ _ r Try.underlying29
      go_wp2_with (go_at_call 9; refine (to9_build hin hsz).mono ?_; rintro e w2 ⟨mb, σ2, rfl, hmid⟩; have hck2 := HC.out w2 hmid.bel)
      go_region_with (first
        | (go_at_call 14; refine (itoa_any n (by omega) _).mono ?_; rintro e w3 ⟨rfl, k3, z3⟩; have k3' : Kept (fun _ => False) w2 w3 := ⟨k3.os, k3.tape, k3.output, k3.size, k3.block⟩; have hmid3 := hmid.keep k3'; have hck3 := HC.out w3 hmid3.bel)
        | (go_at_call 10; refine (setIn10 (hmid3.store.obj _ _ hmid3.here) ⟨#[75]⟩ (f0 n) (itoa n) (by decide) hsz (itoa_size (by omega)) (key_new f0 n)).mono ?_; rintro e w4 ⟨rfl, k4, z4, ho⟩))
      all_goals
        have hlate := hmid3.late k4 ho
        have hck4 := HC.out w4 hlate.bel
        obtain ⟨m4, hm4⟩ := hlate.counts
        have hm4' : MapIs 9 w4.drew (w.heap.size + 2) (Cn (cnt f0 n)) m4 := hm4
        have hl4 := look_count hm4' hsz
        have hcb := cnt_le f0 n (f0 n)
        have hcb' : (cnt f0 n (f0 n) : Int) ≤ 1048576 := by omega
        obtain ⟨w5, m5, hput, hm5, k5, z5, _⟩ := hm4'.put (t := 25) kS Try.underlying25 (keyS hsz) (.int .i64 ((cnt f0 n (f0 n) : Int) + 1))
        have Z5 : Hid (w5.heap.size = w4.drew.heap.size) := z5
        clear z5 hmid hmid3 k3 k3' k4 ho z3 z4 hck3 hck2 hin
        go_wp2
        go_region
        go_wp2
        go_roundg (l0 - (n + 1))
        case measure => omega
        case rel => exact ⟨n + 1, σ2, rfl, by omega, by go_num, hlate.next ⟨k5.os, k5.tape, k5.output, k5.size, k5.block⟩ hm5⟩
    · obtain rfl : n = l0 := by omega
      clear mp1 d1 d2 d3 z1 k1
      have hlt' : ¬ (n : Int) < (n : Int) := by omega
      have hst := In2.start f1 hin
      clear hin
      rename World => wa
      go_wp2
      go_loopg [14] l1 (fun q i wx => ∃ j, q = l1 - j ∧ j ≤ l1 ∧ i = .int .i64 (j : Nat) ∧ In2 w.heap.size f0 n f1 w wx none wa.heap.size σ j)
      case atStart => exact ⟨0, rfl, Nat.zero_le _, rfl, hst⟩
      case round =>
        obtain ⟨j, rfl, hj, rfl, h2⟩ := hrel
        by_cases hlt : j < l1
        · obtain ⟨b, off, rfl, hb, hc⟩ := h1.cell (by omega)
          have hck : ∀ wx, Below w.heap.size w wx → wx.cell? ⟨b, off + j, none⟩ = some (.string (f1 j)) := fun wx hbx => (hbx.cell (p := ⟨b, off + j, none⟩) hb).trans (hc j hlt)
          have hck0 := hck wr h2.bel
          have hlt2 : (j : Int) < (l1 : Int) := by omega
          have hsz := h1.size j hlt
          obtain ⟨m3, hm3⟩ := h2.counts
          have hl3 := look_count hm3 hsz
          by_cases hpos : 0 < cnt f0 n (f1 j)
          · have hpos' : (0 : Int) < (cnt f0 n (f1 j) : Int) := by omega
            obtain ⟨m4, hm4⟩ := h2.handed
            obtain ⟨m5, hm5⟩ := h2.kept
            obtain ⟨w4, n4, hput4, hp4, k4, z4, _⟩ := hm4.put (t := 26) kS Try.underlying26 (keyS hsz) (.bool true)
            obtain ⟨w5, n5, hput5, hp5, k5, z5, _⟩ := (hm5.keep k4 (by omega)).put (t := 26) kS Try.underlying26 (keyS hsz) (.bool true)
            have b4 := k4.below h2.bel (by have := h2.big; have := h2.hge; omega) (fun k e => by have := h2.hge; omega)
            have hck4 := hck w4 b4
            have hnx := h2.next hpos k4 hp4 k5 hp5
            clear hck hc h0 h1 h2 hm3 hm4 hm5 hp4 hp5 k4 k5 z4 z5 b4
            go_wp2
            go_roundg (l1 - (j + 1))
            case measure => omega
            case rel => exact ⟨j + 1, rfl, by omega, by go_num, hnx⟩
          · have hpos' : ¬ (0 : Int) < (cnt f0 n (f1 j) : Int) := by omega
            have hnx := h2.skip hpos
            clear hck hc h0 h1 h2 hm3
            go_wp2
            go_roundg (l1 - (j + 1))
            case measure => omega
            case rel => exact ⟨j + 1, rfl, by omega, by go_num, hnx⟩
        · obtain rfl : j = l1 := by omega
          have hlt2 : ¬ (j : Int) < (j : Int) := by omega
          go_wp2_with (go_at_call 17; refine (setShared17 h2.store wa.heap.size (.inr (.inl rfl)) (by have := h2.hge; omega) (by have := h2.hge; omega)).mono ?_; rintro e w6 ⟨rfl, k6, z6, hst6⟩)
          exact bodyPost_ret (v := .tuple #[.pointer (some ⟨w.heap.size + 1, 0, none⟩), .map (some (w.heap.size + 2)), .map (some (wa.heap.size + 1)), .bool true]) (by simp [results, Try.results7, go_sem]) rfl ⟨wa.heap.size, σ, rfl, h2.set k6 hst6⟩
end Go.Proofs.Qxb6613136a
