/-
  The contracts of the functions that bound the input: zzStB1TooBig, zzBytes_..
-/
import Derived.Test.Qxb6613136aMaps
import Derived.WalkSpells
import Derived.WalkLawsBesides
import Derived.LoopTactic
import Derived.Outline
namespace Go.Proofs.Qxb6613136a
open Go.RowKit
set_option maxRecDepth 100000

/-- a slice of strings that came in: its elements are f 0, f 1 .. -/
structure StrsAt (w : World) (a : Option Addr) (len : Nat) (f : Nat → ByteArray) : Prop where
  max : len ≤ maxLen
  size : ∀ i, i < len → (f i).size ≤ maxLen
  cell : 0 < len → ∃ b off, a = some ⟨b, off, none⟩ ∧ b < w.heap.size ∧ ∀ i, i < len → w.cell? ⟨b, off + i, none⟩ = some (.string (f i))

theorem StrsAt.keep {S : Nat → Prop} {w w' : World} {a : Option Addr} {len : Nat} {f : Nat → ByteArray} (h : StrsAt w a len f) (g : Kept S w w') (hs : ∀ b, S b → w.heap.size ≤ b) : StrsAt w' a len f := by
  refine ⟨h.max, h.size, fun hl => ?_⟩
  obtain ⟨b, off, rfl, hb, hc⟩ := h.cell hl
  exact ⟨b, off, rfl, Nat.lt_of_lt_of_le hb g.size, fun i hi => (World.cell?_of_block (w := w) (a := ⟨b, off + i, none⟩) (g.block b hb (fun x => by have := hs b x; omega))).trans (hc i hi)⟩

theorem StrsAt.below {w w' : World} {a : Option Addr} {len : Nat} {f : Nat → ByteArray} (h : StrsAt w a len f) (g : Below w.heap.size w w') : StrsAt w' a len f := by
  refine ⟨h.max, h.size, fun hl => ?_⟩
  obtain ⟨b, off, rfl, hb, hc⟩ := h.cell hl
  exact ⟨b, off, rfl, Nat.lt_of_lt_of_le hb g.size, fun i hi => (g.cell (p := ⟨b, off + i, none⟩) hb).trans (hc i hi)⟩

/-- the call answers a bool; where it answers true, φ holds -/
def Ans (φ : Prop) (e : Ending) : Prop := ∃ r : Bool, e = .returned (.bool r) ∧ (r = true → φ)
theorem Ans.no (φ : Prop) : Ans φ (.returned (.bool false)) := ⟨false, rfl, fun h => by cases h⟩
theorem Ans.yes {φ : Prop} (h : φ) : Ans φ (.returned (.bool true)) := ⟨true, rfl, fun _ => h⟩

/-- every string is short -/
def Short (f : Nat → ByteArray) (n : Nat) : Prop := ∀ i, i < n → (f i).size ≤ 1048576
theorem Short.zero (f : Nat → ByteArray) : Short f 0 := fun i h => by omega
theorem Short.succ {f : Nat → ByteArray} {n : Nat} (h : Short f n) (hn : (f n).size ≤ 1048576) : Short f (n + 1) := fun i hi => by
  by_cases e : i = n
  · rw [e]; exact hn
  · exact h i (by omega)

set_option maxHeartbeats 1000000 in
theorem tooBig6 (a0 a1 : Option Addr) (l0 c0 l1 c1 : Nat) (f0 f1 : Nat → ByteArray) (ns : ByteArray) (w : World) (h0 : StrsAt w a0 l0 f0) (h1 : StrsAt w a1 l1 f1) (s0 : Short f0 l0) (s1 : Short f1 l1) (hns : ns.size ≤ 1048576) (m0 : l0 ≤ 1048576) (m1 : l1 ≤ 1048576) :
    Calls Try.prog 6 #[.slice a0 l0 c0, .slice a1 l1 c1, .string ns] w fun e w' => Ans True e ∧ w = w' := by
  go_enter Try.func6, Try.ntmps6
  go_wp2
  go_loop [7, 8] (fun t i => ∃ m k : Nat, t = .int .i64 m ∧ m ≤ 1048576 ∧ i = .int .i64 k ∧ k ≤ l0) (fun _ i => l0 - (intOf i).toNat)
  case atStart => exact ⟨ns.size, 0, rfl, by omega, rfl, Nat.zero_le _⟩
  case round =>
    obtain ⟨m, k, rfl, hm, rfl, hk⟩ := hrel
    by_cases hlt : k < l0
    · obtain ⟨b, off, rfl, _, hc⟩ := h0.cell (by omega)
      have hck := hc k hlt
      have hsz := s0 k hlt
      have hlt' : (k : Int) < (l0 : Int) := by omega
      clear hc h0 h1
      go_wp2
      · go_ret
        exact ⟨Ans.yes trivial, rfl⟩
      · go_round
        case rel => exact ⟨m + (16 + (f0 k).size), k + 1, by go_num, by omega, by go_num, by omega⟩
        case measure => simp [intOf]; omega
    · go_wp2
      go_loop [7, 9] (fun t i => ∃ m k : Nat, t = .int .i64 m ∧ m ≤ 1048576 ∧ i = .int .i64 k ∧ k ≤ l1) (fun _ i => l1 - (intOf i).toNat)
      case atStart => exact ⟨m, 0, rfl, hm, rfl, Nat.zero_le _⟩
      case round =>
        obtain ⟨m, k, rfl, hm, rfl, hk⟩ := hrel
        by_cases hlt : k < l1
        · obtain ⟨b, off, rfl, _, hc⟩ := h1.cell (by omega)
          have hck := hc k hlt
          have hsz := s1 k hlt
          have hlt' : (k : Int) < (l1 : Int) := by omega
          clear hc h0 h1
          go_wp2
          · go_ret
            exact ⟨Ans.yes trivial, rfl⟩
          · go_round
            case rel => exact ⟨m + (16 + (f1 k).size), k + 1, by go_num, by omega, by go_num, by omega⟩
            case measure => simp [intOf]; omega
        · go_wp2
          go_ret
          exact ⟨Ans.no _, rfl⟩

set_option maxHeartbeats 2000000 in
theorem bytes5 (a0 a1 : Option Addr) (l0 c0 l1 c1 : Nat) (f0 f1 : Nat → ByteArray) (ns : ByteArray) (w : World) (h0 : StrsAt w a0 l0 f0) (h1 : StrsAt w a1 l1 f1) (hns : ns.size ≤ maxLen) :
    Calls Try.prog 5 #[.slice a0 l0 c0, .slice a1 l1 c1, .string ns] w fun e w' => Ans (l0 ≤ 1048576 ∧ l1 ≤ 1048576 ∧ Short f0 l0 ∧ Short f1 l1 ∧ ns.size ≤ 1048576) e ∧ w = w' := by
  have m0 := h0.max
  have m1 := h1.max
  unfold maxLen at m0 m1 hns
  go_enter Try.func5, Try.ntmps5
  by_cases hb : 1048576 < l0
  · go_wp2
    go_ret
    exact ⟨Ans.no _, rfl⟩
  · go_wp2
    go_loop [7, 8] (fun t i => ∃ m k : Nat, t = .int .i64 m ∧ m ≤ 1048576 ∧ i = .int .i64 k ∧ k ≤ l0 ∧ Short f0 k) (fun _ i => l0 - (intOf i).toNat)
    case atStart => exact ⟨l0, 0, by go_num, by omega, rfl, Nat.zero_le _, Short.zero _⟩
    case round =>
      obtain ⟨m, k, rfl, hm, rfl, hk, hsh⟩ := hrel
      by_cases hlt : k < l0
      · obtain ⟨b, off, rfl, _, hc⟩ := h0.cell (by omega)
        have hck := hc k hlt
        have hlt' : (k : Int) < (l0 : Int) := by omega
        clear hc h0 h1
        by_cases hsz : 1048576 < (f0 k).size
        · go_wp2
          go_ret
          exact ⟨Ans.no _, rfl⟩
        · go_wp2
          · go_ret
            exact ⟨Ans.no _, rfl⟩
          · go_round
            case rel => exact ⟨m + (f0 k).size, k + 1, by go_num, by omega, by go_num, by omega, hsh.succ (by omega)⟩
            case measure => simp [intOf]; omega
      · obtain rfl : k = l0 := by omega
        by_cases hb1 : 1048576 < l1
        · go_wp2
          go_ret
          exact ⟨Ans.no _, rfl⟩
        · by_cases hs1 : 1048576 < m + l1
          · go_wp2
            go_ret
            exact ⟨Ans.no _, rfl⟩
          · go_wp2
            go_loop [7, 9] (fun t i => ∃ m j : Nat, t = .int .i64 m ∧ m ≤ 1048576 ∧ i = .int .i64 j ∧ j ≤ l1 ∧ Short f1 j) (fun _ i => l1 - (intOf i).toNat)
            case atStart => exact ⟨m + l1, 0, by go_num, by omega, rfl, Nat.zero_le _, Short.zero _⟩
            case round =>
              obtain ⟨m, j, rfl, hm, rfl, hj, hsh1⟩ := hrel
              by_cases hlt : j < l1
              · obtain ⟨b, off, rfl, _, hc⟩ := h1.cell (by omega)
                have hck := hc j hlt
                have hlt' : (j : Int) < (l1 : Int) := by omega
                clear hc h0 h1
                by_cases hsz : 1048576 < (f1 j).size
                · go_wp2
                  go_ret
                  exact ⟨Ans.no _, rfl⟩
                · go_wp2
                  · go_ret
                    exact ⟨Ans.no _, rfl⟩
                  · go_round
                    case rel => exact ⟨m + (f1 j).size, j + 1, by go_num, by omega, by go_num, by omega, hsh1.succ (by omega)⟩
                    case measure => simp [intOf]; omega
              · obtain rfl : j = l1 := by omega
                by_cases hsz : 1048576 < ns.size
                · go_wp2
                  go_ret
                  exact ⟨Ans.no _, rfl⟩
                · go_wp2
                  · go_ret
                    exact ⟨Ans.no _, rfl⟩
                  · go_ret
                    exact ⟨Ans.yes (by omega), rfl⟩

set_option maxHeartbeats 2000000 in
theorem bytes15 (a0 a1 : Option Addr) (l0 c0 l1 c1 : Nat) (f0 f1 : Nat → ByteArray) (ns : ByteArray) (w : World) (h0 : StrsAt w a0 l0 f0) (h1 : StrsAt w a1 l1 f1) (hns : ns.size ≤ maxLen) :
    Calls Try.prog 15 #[.slice a0 l0 c0, .slice a1 l1 c1, .string ns] w fun e w' => Ans (l0 ≤ 1048576 ∧ l1 ≤ 1048576 ∧ Short f0 l0 ∧ Short f1 l1 ∧ ns.size ≤ 1048576) e ∧ w = w' := by
  have m0 := h0.max
  have m1 := h1.max
  unfold maxLen at m0 m1 hns
  go_enter Try.func15, Try.ntmps15
  by_cases hb : 1048576 < l0
  · go_wp2
    go_ret
    exact ⟨Ans.no _, rfl⟩
  · go_wp2
    go_loop [7, 8] (fun t i => ∃ m k : Nat, t = .int .i64 m ∧ m ≤ 1048576 ∧ i = .int .i64 k ∧ k ≤ l0 ∧ Short f0 k) (fun _ i => l0 - (intOf i).toNat)
    case atStart => exact ⟨l0, 0, by go_num, by omega, rfl, Nat.zero_le _, Short.zero _⟩
    case round =>
      obtain ⟨m, k, rfl, hm, rfl, hk, hsh⟩ := hrel
      by_cases hlt : k < l0
      · obtain ⟨b, off, rfl, _, hc⟩ := h0.cell (by omega)
        have hck := hc k hlt
        have hlt' : (k : Int) < (l0 : Int) := by omega
        clear hc h0 h1
        by_cases hsz : 1048576 < (f0 k).size
        · go_wp2
          go_ret
          exact ⟨Ans.no _, rfl⟩
        · go_wp2
          · go_ret
            exact ⟨Ans.no _, rfl⟩
          · go_round
            case rel => exact ⟨m + (f0 k).size, k + 1, by go_num, by omega, by go_num, by omega, hsh.succ (by omega)⟩
            case measure => simp [intOf]; omega
      · obtain rfl : k = l0 := by omega
        by_cases hb1 : 1048576 < l1
        · go_wp2
          go_ret
          exact ⟨Ans.no _, rfl⟩
        · by_cases hs1 : 1048576 < m + l1
          · go_wp2
            go_ret
            exact ⟨Ans.no _, rfl⟩
          · go_wp2
            go_loop [7, 9] (fun t i => ∃ m j : Nat, t = .int .i64 m ∧ m ≤ 1048576 ∧ i = .int .i64 j ∧ j ≤ l1 ∧ Short f1 j) (fun _ i => l1 - (intOf i).toNat)
            case atStart => exact ⟨m + l1, 0, by go_num, by omega, rfl, Nat.zero_le _, Short.zero _⟩
            case round =>
              obtain ⟨m, j, rfl, hm, rfl, hj, hsh1⟩ := hrel
              by_cases hlt : j < l1
              · obtain ⟨b, off, rfl, _, hc⟩ := h1.cell (by omega)
                have hck := hc j hlt
                have hlt' : (j : Int) < (l1 : Int) := by omega
                clear hc h0 h1
                by_cases hsz : 1048576 < (f1 j).size
                · go_wp2
                  go_ret
                  exact ⟨Ans.no _, rfl⟩
                · go_wp2
                  · go_ret
                    exact ⟨Ans.no _, rfl⟩
                  · go_round
                    case rel => exact ⟨m + (f1 j).size, j + 1, by go_num, by omega, by go_num, by omega, hsh1.succ (by omega)⟩
                    case measure => simp [intOf]; omega
              · obtain rfl : j = l1 := by omega
                by_cases hsz : 1048576 < ns.size
                · go_wp2
                  go_ret
                  exact ⟨Ans.no _, rfl⟩
                · go_wp2
                  · go_ret
                    exact ⟨Ans.no _, rfl⟩
                  · go_ret
                    exact ⟨Ans.yes (by omega), rfl⟩
end Go.Proofs.Qxb6613136a
