/-
  The contract of zzStB1Itoa.
-/
import Derived.Test.Qxb6613136aMaps
import Derived.Test.Qxb6613136aItoaPlain
import Derived.WalkSpells
import Derived.WalkLawsBesides
import Derived.Laws.IdiomStrings
import Derived.Deep.LoopGhost
import Derived.Outline
namespace Go.Proofs.Qxb6613136a
open Go.RowKit
set_option maxRecDepth 100000

/-- the digits ds are laid; q is still to come -/
structure AtI (n : Nat) (w wr : World) (i p : Value) (q pp : Nat) (ds : List UInt8) : Prop where
  ei : i = .int .i64 q
  ep : p = .int .i64 pp
  epp : pp + ds.length = 20
  edg : dg n = dg q ++ ds
  pow : q * 10 ^ ds.length ≤ n
  cells : ∀ j (hj : j < ds.length), wr.cell? ⟨w.heap.size, pp + j, none⟩ = some (.int .u8 (ds[j].toNat : Int))
  all : ∀ j, j < 20 → ∃ v, wr.cell? ⟨w.heap.size, j, none⟩ = some v
  fz : ∀ j, wr.frozen? ⟨w.heap.size, j, none⟩ = false
  bel : Below w.heap.size w wr
  size : wr.heap.size = w.heap.size + 1

theorem AtI.start (n : Nat) (w : World) : AtI n w (w.alloc (.cells #[.int .u8 0, .int .u8 0, .int .u8 0, .int .u8 0, .int .u8 0, .int .u8 0, .int .u8 0, .int .u8 0, .int .u8 0, .int .u8 0, .int .u8 0, .int .u8 0, .int .u8 0, .int .u8 0, .int .u8 0, .int .u8 0, .int .u8 0, .int .u8 0, .int .u8 0, .int .u8 0] 75))
    (.int .i64 n) (.int .i64 20) n 20 [] := by
  refine ⟨rfl, rfl, rfl, by simp, by simp, fun j hj => by simp at hj, ?_, fun j => World.frozen?_alloc_new _ _ _ _, (Below.refl _ _).alloc (Nat.le_refl _) _, by simp⟩
  intro j hj
  have hc := fun (c : Array Value) (i : Nat) => World.cell?_alloc_new w c 75 i
  have : j = 0 ∨ j = 1 ∨ j = 2 ∨ j = 3 ∨ j = 4 ∨ j = 5 ∨ j = 6 ∨ j = 7 ∨ j = 8 ∨ j = 9 ∨ j = 10 ∨ j = 11 ∨ j = 12 ∨ j = 13 ∨ j = 14 ∨ j = 15 ∨ j = 16 ∨ j = 17 ∨ j = 18 ∨ j = 19 := by omega
  rcases this with h | h | h | h | h | h | h | h | h | h | h | h | h | h | h | h | h | h | h | h <;> subst h <;> exact ⟨.int .u8 0, by simp⟩

theorem AtI.step {n : Nat} {w wr : World} {q r : Nat} {ds : List UInt8} (h : AtI n w wr (.int .i64 q) (.int .i64 ((r + 1 : Nat) : Int)) q (r + 1) ds) (hq : 0 < q) :
    AtI n w (wr.setCell ⟨w.heap.size, r, none⟩ (.int .u8 (48 + (q : Int) % 10))) (.int .i64 ((q : Int) / 10)) (.int .i64 (r : Int)) (q / 10) r (UInt8.ofNat (48 + q % 10) :: ds) := by
  obtain ⟨_, _, hpp, hdg, hpow, hcells, hall, hfz, hbel, hsize⟩ := h
  refine ⟨by simp, rfl, by simp; omega, by rw [hdg, dg_pos hq]; simp, pow_step hpow, ?_, ?_, fun j => by rw [World.frozen?_setCell]; exact hfz j, hbel.setCell (Nat.le_refl _) _, by rw [World.size_setCell]; exact hsize⟩
  · intro j hj
    cases j with
    | zero =>
      obtain ⟨v, hv⟩ := hall r (by omega)
      rw [show r + 0 = r from rfl, World.cell?_setCell_same _ _ _ hv]
      simp only [List.getElem_cons_zero]
      rw [digit_toNat]
      simp
    | succ j =>
      rw [World.cell?_setCell_other _ _ _ _ (by simp), show r + (j + 1) = r + 1 + j by omega]
      simp only [List.getElem_cons_succ]
      exact hcells j (by simpa using hj)
  · intro j hj
    obtain ⟨v, hv⟩ := hall j hj
    by_cases e : j = r
    · subst e
      exact ⟨_, World.cell?_setCell_same _ _ _ hv⟩
    · exact ⟨v, by rw [World.cell?_setCell_other _ _ _ _ (by simp <;> omega)]; exact hv⟩

theorem sliceOf (b pp : Nat) (h : pp < 20) (w : World) : (Instr.sliceAt 75 (.pointer (some ⟨b, 0, none⟩)) (some (.int .i64 pp)) none none).run Try.prog w = .ok (.slice (some ⟨b, pp, none⟩) (20 - pp) (20 - pp)) w := by
  have e1 : Try.prog.arrayLen 75 = 20 := by kernel_rfl
  have e2 : Try.prog.elem 75 = 5 := by kernel_rfl
  have e3 : (Go.sizeOf 5).run Try.prog w = .ok 1 w := by kernel_rfl
  rw [run_sliceAt_array_l (P := Try.prog) w 75 ⟨b, 0, none⟩ (by rw [e1, e2]; exact Try.underlying75) .i64 pp (by omega) (by rw [e1]; omega), e1, e2, e3]
  simp only [Result.andThen, slicedAt, Int.toNat_natCast]
  rw [if_neg (by omega)]
  simp [Addr.add]
  omega

set_option maxHeartbeats 400000 in
theorem itoa_pos (n : Nat) (h0 : 0 < n) (hn : n ≤ 1048576) (w : World) :
    Calls Try.prog 14 #[.int .i64 n] w fun e w' => e = .returned (.string (itoa n)) ∧ Kept (fun _ => False) w w' ∧ w'.heap.size = w.heap.size + 1 := by
  have hq : ((n : Int) == 0) = false := by simp; omega
  go_enter Try.func14, Try.ntmps14
  go_wp2
  go_loopg [0, 4] n (fun m i p wr => ∃ q pp ds, m = q ∧ AtI n w wr i p q pp ds)
  case atStart => exact ⟨n, 20, [], rfl, AtI.start n w⟩
  case round =>
    obtain ⟨q, pp, ds, rfl, hat⟩ := hrel
    obtain ⟨rfl, rfl, hpp, hdg, hpow, hcells, hall, hfz, hbel, hsize⟩ := hat
    by_cases hlt : 0 < gk
    · have hk := pow_lt hlt hpow hn
      obtain ⟨r, rfl⟩ : ∃ r, pp = r + 1 := ⟨pp - 1, by omega⟩
      have HA : Hid (AtI n w wr (.int .i64 gk) (.int .i64 ((r + 1 : Nat) : Int)) gk (r + 1) ds) := ⟨rfl, rfl, hpp, hdg, hpow, hcells, hall, hfz, hbel, hsize⟩
      obtain ⟨v0, hv0⟩ := hall r (by omega)
      have z0 := hfz r
      have hl' : (0 : Int) < (gk : Int) := by omega
      have rb1 : (0 : Int) ≤ (r : Int) := by omega
      have rb2 : (r : Int) < 20 := by omega
      have gb : (gk : Int) ≤ 1048576 := by
        have : gk ≤ gk * 10 ^ ds.length := Nat.le_mul_of_pos_right _ (Nat.pow_pos (by decide))
        omega
      clear hdg hcells hall hfz hsize
      go_wp2
      go_roundg (gk / 10)
      case measure => omega
      case rel => exact ⟨gk / 10, r, _, rfl, HA.out.step hlt⟩
    · have e0 : gk = 0 := by omega
      subst e0
      have hds : dg n = ds := by rw [hdg, dg_zero]; rfl
      have hpos : 0 < ds.length := by rw [← hds, dg_pos h0]; simp
      have hsl := sliceOf w.heap.size pp (by omega) wr
      rw [show 20 - pp = ds.length by omega] at hsl
      have hcv := run_convert_bytes_back (P := Try.prog) wr 76 9 5 ⟨w.heap.size, pp, none⟩ ds.length ds Try.underlying76 Try.underlying5 Try.underlying9 (fun j hj => by rw [show (⟨w.heap.size, pp, none⟩ : Addr).add j = ⟨w.heap.size, pp + j, none⟩ by unfold Addr.add; split <;> simp_all]; exact hcells j hj)
      have HI : Hid (itoa n = ⟨ds.toArray⟩) := by show _ = _; unfold itoa; rw [if_neg (by omega), hds]
      have HS : Hid (wr.heap.size = w.heap.size + 1) := hsize
      clear hds hdg hcells hall hfz hsize hpow
      go_wp2
      go_ret
      exact ⟨by rw [HI.out]; rfl, Kept.of_below hbel _, HS.out⟩

set_option maxHeartbeats 400000 in
theorem itoa_any (n : Nat) (hn : n ≤ 1048576) (w : World) :
    Calls Try.prog 14 #[.int .i64 n] w fun e w' => e = .returned (.string (itoa n)) ∧ Kept (fun _ => False) w w' ∧ w.heap.size ≤ w'.heap.size := by
  rcases Nat.eq_zero_or_pos n with h | h
  · subst h
    go_enter Try.func14, Try.ntmps14
    go_wp2
    go_ret
    exact ⟨rfl, Kept.refl _ _, Nat.le_refl _⟩
  · exact (itoa_pos n h hn w).mono fun e w' ⟨h1, h2, h3⟩ => ⟨h1, h2, by omega⟩
end Go.Proofs.Qxb6613136a
