/-
  The walk of FnIsLiveWordPrepended.
-/
import Derived.Test.Qxb6613288aSets
namespace Go.Proofs.Qxb6613288a
open Go.RowKit
set_option maxRecDepth 100000

set_option maxHeartbeats 400000 in
theorem pre_out (a : Option Addr) (n cap : Nat) (x id : Int) (hm : n ≤ maxLen) (h : 65536 ≤ n ∨ 18446744073709551551 < id) (w : World) :
    Calls Try.prog 4 #[.slice a n cap, .int .u64 x, .int .u64 id] w fun e w' => e = .returned (.bool true) ∧ Below w.heap.size w w' := by
  by_cases h1 : 1048576 < n
  · clear h
    go_enter Try.func4, Try.ntmps4
    go_wp2_with (go_at_call 9; refine (bytesNot9 a n cap x id h1 hm _).mono ?_; rintro e w' ⟨rfl, rfl⟩)
    go_ret
    exact ⟨rfl, Below.refl _ _⟩
  · unfold maxLen at hm
    have h1' : n ≤ 1048576 := by omega
    by_cases h2 : 65536 ≤ n
    · have hd : decide ((65536 : Int) ≤ (n : Int)) = true := by simp; omega
      clear h h2 h1 hm
      go_enter Try.func4, Try.ntmps4
      go_wp2_with (go_at_call 9; refine (bytes9 a n cap x id h1' _).mono ?_; rintro e w' ⟨rfl, rfl⟩)
      go_ret
      exact ⟨rfl, Below.refl _ _⟩
    · have hd : decide ((65536 : Int) ≤ (n : Int)) = false := by simp; omega
      have h3 : decide ((18446744073709551551 : Int) < id) = true := by simp; omega
      clear h h2 h1 hm
      go_enter Try.func4, Try.ntmps4
      go_wp2_with (go_at_call 9; refine (bytes9 a n cap x id h1' _).mono ?_; rintro e w' ⟨rfl, rfl⟩)
      go_ret
      exact ⟨rfl, Below.refl _ _⟩

set_option maxHeartbeats 1000000 in
theorem pre_main (a : Option Addr) (n cap : Nat) (f : Nat → Nat) (x id : Nat) (hx : x < two64) (hid : id + 64 < two64) (hn : n ≤ 65535) (w : World) (h : WordsAt w a n f) :
    Calls Try.prog 4 #[.slice a n cap, .int .u64 x, .int .u64 id] w fun e w' => e = .returned (.bool true) ∧ Below w.heap.size w w' := by
  have hmk := run_make_row' (P := Try.prog) 22 23 (.int .u64 0) 8 Try.underlying22 info23 rfl .i64 .i64 (n + 1) (by omega) (by omega)
  rw [show ((n + 1 : Nat) : Int) = (n : Int) + 1 by omega] at hmk
  have h1' : n ≤ 1048576 := by omega
  have hd : decide ((65536 : Int) ≤ (n : Int)) = false := by simp; omega
  have h3 : decide ((18446744073709551551 : Int) < (id : Int)) = false := by unfold two64 at hid; simp; omega
  have HN : Hid (n ≤ 65535) := hn
  clear hn
  go_enter Try.func4, Try.ntmps4
  go_wp2_with (first
    | (go_at_call 9; refine (bytes9 a n cap _ _ h1' _).mono ?_; rintro e w' ⟨rfl, rfl⟩)
    | (go_at_call 6; refine (clone6 w a n cap f (by have := HN.out; omega) h).mono ?_; rintro e w1 ⟨a1, cap1, rfl, C1⟩; obtain ⟨v0, hv0⟩ := (Fill.start w1 (n + 1) (pre x f)).all 0 (by omega)))
  have F1 := (Fill.start w1 (n + 1) (pre x f)).step (by omega)
  rw [World.setCell_alloc_at _ _ _ _ _ rfl] at F1
  have hlt0 := h.lt
  go_loopg [9] n (fun q i wr => ∃ k, q = n - k ∧ k ≤ n ∧ i = .int .i64 (k : Nat) ∧ Fill w1 wr (n + 1) (pre x f) (k + 1))
  case atStart => exact ⟨0, rfl, Nat.zero_le _, rfl, F1⟩
  case round =>
    obtain ⟨k, rfl, hk, rfl, hF⟩ := hrel
    clear F1 hv0
    by_cases hlt : k < n
    · obtain ⟨b, off, e, hb, hc⟩ := h.at' (by omega)
      subst e
      have hck : wr.cell? ⟨b, off + k, none⟩ = some (.int .u64 (f k)) := ((C1.bel.trans (hF.bel.mono C1.bel.size)).cell (p := ⟨b, off + k, none⟩) hb).trans (hc k hlt)
      obtain ⟨v, hv⟩ := hF.all (k + 1) (by omega)
      have hz := hF.fz (k + 1)
      have hlt' : (k : Int) < (n : Int) := by omega
      have hst := hF.step (by omega : k + 1 < n + 1)
      rw [show pre x f (k + 1) = f k from rfl] at hst
      clear hc h
      go_wp2_with fail
      go_roundg (n - (k + 1))
      case measure => omega
      case rel => exact ⟨k + 1, rfl, by omega, by go_num, hst⟩
    · obtain rfl : k = n := by omega
      have hlt' : ¬ (k : Int) < (k : Int) := by omega
      have C2 := hF.copy
      go_wp2_with fail
      refine (new7 a1 k cap1 _).mono ?_
      rintro e w3 ⟨rfl, b3, z3, s3⟩
      have Z3 : Hid (w3.heap.size = wr.heap.size + 1) := z3
      clear z3
      go_wp2_with fail
      refine (new7 (some ⟨w1.heap.size, 0, none⟩) (k + 1) (k + 1) _).mono ?_
      rintro e w4 ⟨rfl, b4, z4, s4⟩
      clear z4
      have b34 : Below wr.heap.size wr w4 := b3.trans (b4.mono b3.size)
      have b14 : Below w1.heap.size w1 w4 := hF.bel.trans (b34.mono hF.bel.size)
      have bel : Below w.heap.size w w4 := C1.bel.trans (b14.mono C1.bel.size)
      have S1 : SetIs w4 wr.heap.size k f := C1.set b14 (by have := HN.out; omega) h.lt ((b4.cell (p := ⟨wr.heap.size, 4, none⟩) (by show wr.heap.size < w3.heap.size; have := Z3.out; omega)).trans s3)
      have S2 : SetIs w4 w3.heap.size (k + 1) (pre x f) := C2.set b34 (by have := HN.out; omega) (fun j hj => by unfold pre; split; exact hx; exact hlt0 _ (by omega)) s4
      clear b3 b4 b34 b14 C1 C2 s3 s4 hF h hlt0 hmk hd h3
      go_wp2_with fail
      refine (live8 _ k f id (by omega) _ S1).mono ?_
      rintro e w' ⟨rfl, n1, rfl⟩
      go_wp2_with fail
      have hw : IntKind.u64.wrap ((id : Int) + 64) = ((id + 64 : Nat) : Int) := by rw [IntKind.wrap_u64]; unfold two64 at hid; omega
      rw [hw]
      clear hw
      refine (live8 _ (k + 1) (pre x f) (id + 64) hid _ (S2.drewN n1)).mono ?_
      rintro e w' ⟨rfl, n2, rfl⟩
      rw [liveB_pre]
      go_wp2_with fail
      go_loopg [16, 17, 18, 19] 64 (fun q g i _ _ wx => ∃ j n3, q = 64 - j ∧ j ≤ 64 ∧ i = .int .i64 (j : Nat) ∧ g = .int .u64 (low x j : Nat) ∧ wx = w4.drewN n3)
      case atStart => exact ⟨0, _, rfl, by omega, rfl, by rw [low_zero]; rfl, rfl⟩
      case round =>
        obtain ⟨j, n3, rfl, hj, rfl, rfl, rfl⟩ := hrel
        by_cases hlt2 : j < 64
        · have hlt3 : (j : Int) < 64 := by omega
          have hjb : j < two64 := by unfold two64; omega
          have hlb := liveB_pre0 x f k hlt2
          by_cases hbit : x.testBit j = true
          · have hor := or_step hx hlt2 hbit
            have hlb' : liveB (pre x f) (k + 1) j = true := hlb.trans hbit
            have HB : Hid (x.testBit j = true) := hbit
            clear hlb hbit
            go_wp2_with (go_at_call 8; refine (live8 _ (k + 1) (pre x f) j hjb _ (S2.drewN _)).mono ?_; rintro e w' ⟨rfl, n4, rfl⟩)
            go_roundg (64 - (j + 1))
            case measure => omega
            case rel => exact ⟨j + 1, _, rfl, by omega, by go_num, rfl, rfl⟩
          · have hbit' : x.testBit j = false := by simpa using hbit
            have hlow := low_no hbit'
            have hlb' : liveB (pre x f) (k + 1) j = false := hlb.trans hbit'
            have HL : Hid (low x (j + 1) = low x j) := hlow
            clear hlb hbit hbit' hlow
            go_wp2_with (go_at_call 8; refine (live8 _ (k + 1) (pre x f) j hjb _ (S2.drewN _)).mono ?_; rintro e w' ⟨rfl, n4, rfl⟩)
            go_roundg (64 - (j + 1))
            case measure => omega
            case rel => exact ⟨j + 1, _, rfl, by omega, by go_num, by rw [HL.out], rfl⟩
        · obtain rfl : j = 64 := by omega
          have hall := low_all hx
          go_wp2_with fail
          go_ret
          exact ⟨rfl, bel.os, bel.tape, bel.output, bel.size, bel.block⟩
end Go.Proofs.Qxb6613288a
