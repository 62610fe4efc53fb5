/-
  The walk of FnIsLiveReadsBackItsWords.
-/
import Derived.Test.Qxb6613288aSets
namespace Go.Proofs.Qxb6613288a
open Go.RowKit
set_option maxRecDepth 100000

set_option maxHeartbeats 400000 in
theorem reads_out (a : Option Addr) (n cap : Nat) (id : Int) (hm : n ≤ maxLen) (h : 65536 < n) (w : World) :
    Calls Try.prog 3 #[.slice a n cap, .int .u64 id] w fun e w' => e = .returned (.bool true) ∧ Below w.heap.size w w' := by
  by_cases h1 : 1048576 < n
  · go_enter Try.func3, Try.ntmps3
    go_wp2_with (go_at_call 5; refine (bytesNot5 a n cap id h1 hm _).mono ?_; rintro e w' ⟨rfl, rfl⟩)
    go_ret
    exact ⟨rfl, Below.refl _ _⟩
  · have h1' : n ≤ 1048576 := by omega
    have hd : decide ((65536 : Int) < (n : Int)) = true := by simp; omega
    clear h1 h hm
    go_enter Try.func3, Try.ntmps3
    go_wp2_with (go_at_call 5; refine (bytes5 a n cap id h1' _).mono ?_; rintro e w' ⟨rfl, rfl⟩)
    go_ret
    exact ⟨rfl, Below.refl _ _⟩

/-- '^x' -/
theorem not_word (x : Nat) (hx : x < two64) : bits .xor .u64 IntKind.u64.max (x : Int) = (comp x : Int) := by
  have hm : IntKind.u64.max = ((18446744073709551615 : Nat) : Int) := by decide
  have hx' : x < 18446744073709551616 := hx
  rw [hm, bits_xor_u64_nat 18446744073709551615 x (by omega) hx']
  congr 1
  apply Nat.eq_of_testBit_eq
  intro i
  rw [Nat.testBit_xor, show (18446744073709551615 : Nat) = 2 ^ 64 - 1 from rfl, Nat.testBit_two_pow_sub_one]
  by_cases hi : i < 64
  · rw [comp_bit hx hi]; simp [hi]
  · have h1 : x.testBit i = false := Nat.testBit_lt_two_pow (Nat.lt_of_lt_of_le hx (show 2 ^ 64 ≤ 2 ^ i from Nat.pow_le_pow_right (by decide) (by omega)))
    have h2 : (comp x).testBit i = false := Nat.testBit_lt_two_pow (Nat.lt_of_lt_of_le (comp_lt x) (show 2 ^ 64 ≤ 2 ^ i from Nat.pow_le_pow_right (by decide) (by omega)))
    rw [h1, h2]; simp [hi]

theorem neq_not (b : Bool) : (b == !b) = false := by cases b <;> rfl
theorem bne_not (b : Bool) : (b != !b) = true := by cases b <;> rfl

set_option maxHeartbeats 1000000 in
theorem reads_some (x : Addr) (n cap : Nat) (f : Nat → Nat) (id : Nat) (hid : id < two64) (hn : n ≤ 65536) (w : World) (h : WordsAt w (some x) n f) :
    Calls Try.prog 3 #[.slice (some x) n cap, .int .u64 id] w fun e w' => e = .returned (.bool true) ∧ Below w.heap.size w w' := by
  have hmk := run_make_row' (P := Try.prog) 22 23 (.int .u64 0) 8 Try.underlying22 info23 rfl .i64 .i64 n (by omega) (by omega)
  have hnn := fun w => run_neq_slice_nil_any (P := Try.prog) w 22 23 (some x) n cap 0 0 Try.underlying22
  have h1' : n ≤ 1048576 := by omega
  have hd : decide ((65536 : Int) < (n : Int)) = false := by simp; omega
  have HN : Hid (n ≤ 65536) := hn
  clear hn
  go_enter Try.func3, Try.ntmps3
  go_wp2_with (first
    | (go_at_call 5; refine (bytes5 _ n cap _ h1' _).mono ?_; rintro e w' ⟨rfl, rfl⟩)
    | (go_at_call 6; refine (clone6 w (some x) n cap f HN.out h).mono ?_; rintro e w1 ⟨a1, cap1, rfl, C1⟩))
  have F0 := Fill.start w1 n (fun j => comp (f j))
  go_loopg [7] n (fun q i wr => ∃ k, q = n - k ∧ k ≤ n ∧ i = .int .i64 (k : Nat) ∧ Fill w1 wr n (fun j => comp (f j)) k)
  case atStart => exact ⟨0, rfl, Nat.zero_le _, rfl, F0⟩
  case round =>
    obtain ⟨k, rfl, hk, rfl, hF⟩ := hrel
    clear F0
    by_cases hlt : k < n
    · obtain ⟨b, off, e, hb, hc⟩ := h.at' (by omega)
      cases e
      have hck : wr.cell? ⟨b, off + k, none⟩ = some (.int .u64 (f k)) := ((C1.bel.trans (hF.bel.mono C1.bel.size)).cell (p := ⟨b, off + k, none⟩) hb).trans (hc k hlt)
      obtain ⟨v, hv⟩ := hF.all k hlt
      have hz := hF.fz k
      have hlt' : (k : Int) < (n : Int) := by omega
      have hst := hF.step hlt
      have hcm := not_word (f k) (h.lt k hlt)
      clear hc h
      go_wp2_with fail
      go_roundg (n - (k + 1))
      case measure => omega
      case rel => exact ⟨k + 1, rfl, by omega, by go_num, hst⟩
    · obtain rfl : k = n := by omega
      have hlt' : ¬ (k : Int) < (k : Int) := by omega
      have C2 := hF.copy
      go_wp2_with fail
      refine (new7 a1 k cap1 _).mono ?_
      rintro e w3 ⟨rfl, b3, z3, s3⟩
      have Z3 : Hid (w3.heap.size = wr.heap.size + 1) := z3
      clear z3
      go_wp2_with fail
      refine (new7 (some ⟨w1.heap.size, 0, none⟩) k k _).mono ?_
      rintro e w4 ⟨rfl, b4, z4, s4⟩
      clear z4
      have b34 : Below wr.heap.size wr w4 := b3.trans (b4.mono b3.size)
      have b14 : Below w1.heap.size w1 w4 := hF.bel.trans (b34.mono hF.bel.size)
      have bel : Below w.heap.size w w4 := C1.bel.trans (b14.mono C1.bel.size)
      have S1 : SetIs w4 wr.heap.size k f := C1.set b14 (by have := HN.out; omega) h.lt ((b4.cell (p := ⟨wr.heap.size, 4, none⟩) (by show wr.heap.size < w3.heap.size; have := Z3.out; omega)).trans s3)
      have S2 : SetIs w4 w3.heap.size k (fun j => comp (f j)) := C2.set b34 (by have := HN.out; omega) (fun j _ => comp_lt _) s4
      clear b3 b4 b34 b14 C1 C2 s3 s4 hF hmk hd hnn
      go_wp2_with fail
      go_loopg [10, 11, 12, 13, 14, 15, 16, 17] k (fun q i _ _ _ _ _ _ _ wx => ∃ m n3, q = k - m ∧ m ≤ k ∧ i = .int .i64 (m : Nat) ∧ wx = w4.drewN n3)
      case atStart => exact ⟨0, 0, rfl, Nat.zero_le _, rfl, rfl⟩
      case round =>
        obtain ⟨m, n3, rfl, hm, rfl, rfl⟩ := hrel
        by_cases hlt2 : m < k
        · have hlt3 : (m : Int) < (k : Int) := by omega
          go_wp2_with fail
          go_loopg [11, 12, 13, 14, 15, 16, 17] 64 (fun q g i _ _ _ _ _ wx => ∃ j n4, q = 64 - j ∧ j ≤ 64 ∧ i = .int .i64 (j : Nat) ∧ g = .int .u64 (low (f m) j : Nat) ∧ wx = w4.drewN n4)
          case atStart => exact ⟨0, _, rfl, by omega, rfl, by rw [low_zero]; rfl, rfl⟩
          case round =>
            obtain ⟨j, n4, rfl, hj, rfl, rfl, rfl⟩ := hrel
            by_cases hlt4 : j < 64
            · have hlt5 : (j : Int) < 64 := by omega
              have hmk2 : m * 64 + j < two64 := by have := HN.out; unfold two64; omega
              have hla := liveB_at (f := f) hlt2 hlt4
              have hlb : liveB (fun j => comp (f j)) k (m * 64 + j) = !(f m).testBit j := (liveB_at (f := fun j => comp (f j)) hlt2 hlt4).trans (comp_bit (h.lt m hlt2) hlt4)
              by_cases hbit : (f m).testBit j = true
              · have hor := or_step (h.lt m hlt2) hlt4 hbit
                have hla' : liveB f k (m * 64 + j) = true := hla.trans hbit
                have hlb' : liveB (fun j => comp (f j)) k (m * 64 + j) = false := by rw [hlb, hbit]; rfl
                clear hla hlb hbit
                go_wp2_with fail
                rw [show (m : Int) * 64 + (j : Int) = ((m * 64 + j : Nat) : Int) by omega]
                refine (live8 _ k f (m * 64 + j) hmk2 _ (S1.drewN _)).mono ?_
                rintro e w' ⟨rfl, n5, rfl⟩
                rw [hla']
                go_wp2_with fail
                refine (live8 _ k (fun j => comp (f j)) (m * 64 + j) hmk2 _ (S2.drewN _)).mono ?_
                rintro e w' ⟨rfl, n6, rfl⟩
                rw [hlb']
                go_wp2_with fail
                go_roundg (64 - (j + 1))
                case measure => omega
                case rel => exact ⟨j + 1, _, rfl, by omega, by go_num, rfl, rfl⟩
              · have hbit' : (f m).testBit j = false := by simpa using hbit
                have hlow := low_no hbit'
                have hla' : liveB f k (m * 64 + j) = false := hla.trans hbit'
                have hlb' : liveB (fun j => comp (f j)) k (m * 64 + j) = true := by rw [hlb, hbit']; rfl
                have HL : Hid (low (f m) (j + 1) = low (f m) j) := hlow
                clear hla hlb hbit hbit' hlow
                go_wp2_with fail
                rw [show (m : Int) * 64 + (j : Int) = ((m * 64 + j : Nat) : Int) by omega]
                refine (live8 _ k f (m * 64 + j) hmk2 _ (S1.drewN _)).mono ?_
                rintro e w' ⟨rfl, n5, rfl⟩
                rw [hla']
                go_wp2_with fail
                refine (live8 _ k (fun j => comp (f j)) (m * 64 + j) hmk2 _ (S2.drewN _)).mono ?_
                rintro e w' ⟨rfl, n6, rfl⟩
                rw [hlb']
                go_wp2_with fail
                go_roundg (64 - (j + 1))
                case measure => omega
                case rel => exact ⟨j + 1, _, rfl, by omega, by go_num, by rw [HL.out], rfl⟩
            · obtain rfl : j = 64 := by omega
              have hall := low_all (h.lt m hlt2)
              obtain ⟨b, off, e, hb, hc⟩ := h.at' (by omega)
              obtain rfl : x = ⟨b, off, none⟩ := Option.some.inj e
              have hck : w4.cell? ⟨b, off + m, none⟩ = some (.int .u64 (f m)) := (bel.cell (p := ⟨b, off + m, none⟩) hb).trans (hc m hlt2)
              clear hc
              go_wp2_with fail
              go_roundg (k - (m + 1))
              case measure => omega
              case rel => exact ⟨m + 1, _, rfl, by omega, by go_num, rfl⟩
        · have hlt3 : ¬ (m : Int) < (k : Int) := by omega
          by_cases hin : id / 64 < k
          · have hin' : (id : Int) / 64 < (k : Int) := by omega
            have hnot := liveB_comp (f := f) h.lt hin
            cases hlv : liveB f k id with
            | true =>
              rw [hlv] at hnot
              go_wp2_with fail
              refine (live8 _ k f id hid _ (S1.drewN _)).mono ?_
              rintro e w' ⟨rfl, n5, rfl⟩
              go_wp2_with fail
              refine (live8 _ k (fun j => comp (f j)) id hid _ (S2.drewN _)).mono ?_
              rintro e w' ⟨rfl, n6, rfl⟩
              go_wp2_with fail
              go_ret
              exact ⟨rfl, bel.os, bel.tape, bel.output, bel.size, bel.block⟩
            | false =>
              rw [hlv] at hnot
              go_wp2_with fail
              refine (live8 _ k f id hid _ (S1.drewN _)).mono ?_
              rintro e w' ⟨rfl, n5, rfl⟩
              go_wp2_with fail
              refine (live8 _ k (fun j => comp (f j)) id hid _ (S2.drewN _)).mono ?_
              rintro e w' ⟨rfl, n6, rfl⟩
              go_wp2_with fail
              go_ret
              exact ⟨rfl, bel.os, bel.tape, bel.output, bel.size, bel.block⟩
          · have hin' : decide ((id : Int) / 64 < (k : Int)) = false := by simp; omega
            have hw64 : IntKind.u64.wrap ((id : Int) / 64) = (id : Int) / 64 := by rw [IntKind.wrap_u64]; unfold two64 at hid; omega
            have hl1 : liveB f k id = false := liveB_out hin
            have hl2 : liveB (fun j => comp (f j)) k id = false := liveB_out hin
            clear hin
            go_wp2_with fail
            refine (live8 _ k f id hid _ (S1.drewN _)).mono ?_
            rintro e w' ⟨rfl, n5, rfl⟩
            go_wp2_with fail
            refine (live8 _ k (fun j => comp (f j)) id hid _ (S2.drewN _)).mono ?_
            rintro e w' ⟨rfl, n6, rfl⟩
            go_wp2_with fail
            go_ret
            exact ⟨rfl, bel.os, bel.tape, bel.output, bel.size, bel.block⟩

set_option maxHeartbeats 1000000 in
theorem reads_nil (cap : Nat) (id : Nat) (hid : id < two64) (w : World) :
    Calls Try.prog 3 #[.slice none 0 cap, .int .u64 id] w fun e w' => e = .returned (.bool true) ∧ Below w.heap.size w w' := by
  have hnn := fun w => run_neq_slice_nil_any (P := Try.prog) w 22 23 none 0 cap 0 0 Try.underlying22
  have hw64 : IntKind.u64.wrap ((id : Int) / 64) = (id : Int) / 64 := by rw [IntKind.wrap_u64]; unfold two64 at hid; omega
  have hin' : decide ((id : Int) / 64 < 0) = false := by simp; omega
  have hl : ∀ f, liveB f 0 id = false := fun f => liveB_out (by omega)
  go_enter Try.func3, Try.ntmps3
  go_wp2_with (first
    | (go_at_call 5; refine (bytes5 _ 0 cap _ (by omega) _).mono ?_; rintro e w' ⟨rfl, rfl⟩)
    | (go_at_call 6; refine (clone_nil w cap).mono ?_; rintro e w' ⟨rfl, rfl⟩))
  refine (new7 none 0 0 _).mono ?_
  rintro e w3 ⟨rfl, b3, z3, s3⟩
  have Z3 : Hid (w3.heap.size = w.heap.size + 1) := z3
  clear z3
  go_wp2_with fail
  refine (new7 none 0 0 _).mono ?_
  rintro e w4 ⟨rfl, b4, z4, s4⟩
  clear z4
  have bel : Below w.heap.size w w4 := b3.trans (b4.mono b3.size)
  have S1 : SetIs w4 w.heap.size 0 (fun _ => 0) := ⟨by omega, fun j hj => by omega, none, 0, (b4.cell (p := ⟨w.heap.size, 4, none⟩) (by show w.heap.size < w3.heap.size; have := Z3.out; omega)).trans s3, fun h => by omega⟩
  have S2 : SetIs w4 w3.heap.size 0 (fun _ => 0) := ⟨by omega, fun j hj => by omega, none, 0, s4, fun h => by omega⟩
  clear b3 b4 s3 s4
  go_wp2_with fail
  refine wp_loop_rounds 1 ?_
  rw [rounds_succ]
  go_wp2_with fail
  refine (live8 _ 0 (fun _ => 0) id hid _ S1).mono ?_
  rintro e w' ⟨rfl, n5, rfl⟩
  go_wp2_with fail
  refine (live8 _ 0 (fun _ => 0) id hid _ (S2.drewN _)).mono ?_
  rintro e w' ⟨rfl, n6, rfl⟩
  go_wp2_with fail
  go_ret
  exact ⟨rfl, bel.os, bel.tape, bel.output, bel.size, bel.block⟩
end Go.Proofs.Qxb6613288a
