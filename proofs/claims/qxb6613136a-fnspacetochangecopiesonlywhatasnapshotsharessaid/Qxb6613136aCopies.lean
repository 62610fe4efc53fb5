/-
  The walk of FnSpaceToChangeCopiesOnlyWhatASnapshotShares.
-/
import Derived.Test.Qxb6613136aTwice
namespace Go.Proofs.Qxb6613136a
open Go.RowKit Go.Maps
set_option maxRecDepth 100000

/-- the keys of the namespaces behind the last object -/
def keysX (f0 : Nat → ByteArray) (l0 : Nat) (ns s : ByteArray) (x : Value) : Prop := if s = ns then (x = kv kK ns kX ∨ keys f0 l0 ns x) else keys f0 l0 s x
def cntX (f0 : Nat → ByteArray) (l0 : Nat) (ns s : ByteArray) : Nat := if s = ns then cnt f0 l0 ns + 1 else cnt f0 l0 s

theorem keysX_at {f0 : Nat → ByteArray} {l0 : Nat} (ns : ByteArray) {n : Nat} (h : n < l0) : keysX f0 l0 ns (f0 n) (kv kK (f0 n) (itoa n)) := by
  unfold keysX
  by_cases e : f0 n = ns
  · rw [if_pos e]
    exact .inr ⟨n, h, e, by rw [e]⟩
  · rw [if_neg e]
    exact ⟨n, h, rfl, rfl⟩

/-- WHAT THE TWO LAST LOOPS READ -/
structure Last (B hd : Nat) (ns : ByteArray) (f0 : Nat → ByteArray) (l0 : Nat) (f1 : Nat → ByteArray) (l1 : Nat) (w0 w : World) (σ2 : ByteArray → Option Nat) (τ2 : ByteArray → Bool) (mb : Nat) : Prop where
  store : Store B (X2 B hd) w (B + 1) B (some hd) σ2 (keysX f0 l0 ns) (cntX f0 l0 ns)
  here : σ2 ns = some mb
  dom : ∀ s, s ≠ ns → (σ2 s = none ↔ cnt f0 l0 s = 0)
  shared : ∃ m, MapIs 9 w hd (Sh τ2) m
  tother : ∀ s, s ≠ ns → τ2 s = tau (cnt f0 l0) f1 l1 s
  counts : ∃ m, MapIs 9 w (B + 2) (Cn (cnt f0 l0)) m
  kept : ∃ m, MapIs 9 w (hd + 1) (Sh (tau (cnt f0 l0) f1 l1)) m
  bel : Below B w0 w
  big : B ≤ w.heap.size

theorem Last.keep {B hd : Nat} {ns : ByteArray} {f0 : Nat → ByteArray} {l0 : Nat} {f1 : Nat → ByteArray} {l1 : Nat} {w0 w w' : World} {σ2 : ByteArray → Option Nat} {τ2 : ByteArray → Bool} {mb : Nat}
    (h : Last B hd ns f0 l0 f1 l1 w0 w σ2 τ2 mb) (g : Kept (fun _ => False) w w') : Last B hd ns f0 l0 f1 l1 w0 w' σ2 τ2 mb := by
  obtain ⟨m1, h1⟩ := h.shared
  obtain ⟨m2, h2⟩ := h.counts
  obtain ⟨m3, h3⟩ := h.kept
  exact ⟨h.store.keep g (fun x => x) (fun x => x) (fun _ _ _ x => x), h.here, h.dom, ⟨m1, h1.keep g (fun x => x)⟩, h.tother, ⟨m2, h2.keep g (fun x => x)⟩, ⟨m3, h3.keep g (fun x => x)⟩, g.below h.bel h.big (fun _ x => x.elim), Nat.le_trans h.big g.size⟩

/-- every namespace of an object has a map -/
theorem Last.some {B hd : Nat} {ns : ByteArray} {f0 : Nat → ByteArray} {l0 : Nat} {f1 : Nat → ByteArray} {l1 : Nat} {w0 w : World} {σ2 : ByteArray → Option Nat} {τ2 : ByteArray → Bool} {mb : Nat}
    (h : Last B hd ns f0 l0 f1 l1 w0 w σ2 τ2 mb) {n : Nat} (hn : n < l0) : ∃ b, σ2 (f0 n) = .some b := by
  by_cases e : f0 n = ns
  · exact ⟨mb, by rw [e]; exact h.here⟩
  · cases hs : σ2 (f0 n) with
    | none => have := (h.dom _ e).1 hs; have := cnt_pos f0 hn; omega
    | some b => exact ⟨b, rfl⟩

theorem len_of {w : World} {b n m : Nat} {κ : Value → Prop} (h : ObjIs w b κ n) (hn : n = m) (ty : TypeId) : (Builtin.len_ #[29] ty #[.map (.some b)]).run Try.prog w = .ok (.int .i64 m) w := by
  obtain ⟨R, hR, _⟩ := h
  rw [hR.len (t := 29) Try.underlying29 ty, hn]

theorem same_yes {a b : ByteArray} (h : a = b) : (a.toList == b.toList) = true := by rw [h]; simp
theorem same_no {a b : ByteArray} (h : a ≠ b) : (a.toList == b.toList) = false := by
  rw [beq_eq_false_iff_ne]
  intro e
  rw [ByteArray.toList_eq, ByteArray.toList_eq] at e
  exact h (ByteArray.ext (Array.toList_inj.1 e))

/-- the second loop's question, in an open order -/
theorem isShared13' {B : Nat} {X : Nat → Prop} {w : World} {st sp : Nat} {σ : ByteArray → Option Nat} {κ : ByteArray → Value → Prop} {c : ByteArray → Nat} {hb : Nat} (h : Store B X w st sp (.some hb) σ κ c) {τ : ByteArray → Bool} {m : Nat} (hm : MapIs 9 w hb (Sh τ) m) (ns : ByteArray) (hns : ns.size ≤ maxLen) (n : Nat) :
    Calls Try.prog 13 #[.pointer (.some ⟨st, 0, none⟩), .string ns] (w.drewN n) fun e w' => e = .returned (.bool (τ ns)) ∧ w' = w.drewN n :=
  (isShared13 (h.keep (Kept.drewN (fun _ => False) w n) (fun x => x) (fun x => x) (fun _ _ _ x => x)) (hm.keep (Kept.drewN (fun _ => False) w n) (fun x => x)) ns hns).mono fun _ _ ⟨h1, h2⟩ => ⟨h1, h2.symm⟩

set_option maxHeartbeats 4000000 in
theorem copies3 (a0 a1 : Option Addr) (l0 c0 l1 c1 : Nat) (f0 f1 : Nat → ByteArray) (ns : ByteArray) (w : World) (h0 : StrsAt w a0 l0 f0) (h1 : StrsAt w a1 l1 f1) (hns : ns.size ≤ maxLen) :
    Calls Try.prog 3 #[.slice a0 l0 c0, .slice a1 l1 c1, .string ns] w fun e w' => e = .returned (.bool true) ∧ Below w.heap.size w w' := by
  go_enter Try.func3, Try.ntmps3
  go_wp2_with fail
  refine (bytes5 a0 a1 l0 c0 l1 c1 f0 f1 ns w h0 h1 hns).mono ?_
  rintro e w' ⟨⟨r, rfl, hr⟩, rfl⟩
  cases r with
  | false =>
    go_wp2_with fail
    go_ret
    exact ⟨rfl, Below.refl _ _⟩
  | true =>
    obtain ⟨m0, m1, s0, s1, hn1⟩ := hr rfl
    clear hr
    go_wp2_with fail
    refine (tooBig6 a0 a1 l0 c0 l1 c1 f0 f1 ns w h0 h1 s0 s1 hn1 m0 m1).mono ?_
    rintro e w' ⟨⟨r, rfl, _⟩, rfl⟩
    cases r with
    | true =>
      go_wp2_with fail
      go_ret
      exact ⟨rfl, Below.refl _ _⟩
    | false =>
      go_wp2_with fail
      refine (build7 a0 a1 l0 c0 l1 c1 f0 f1 w h0 h1 m0 m1).mono ?_
      rintro e w1 ⟨hd, σ, rfl, hin⟩
      clear s0 s1
      obtain ⟨q1, hq1⟩ := hin.counts
      obtain ⟨q2, hq2⟩ := hin.kept
      have e1 := look_count hq1 hns
      have e2 := look_shared hq2 hns
      go_wp2_with fail
      refine (space8 hin.store ns hns).mono ?_
      rintro e w' ⟨rfl, rfl⟩
      go_wp2_with fail
      refine (to9_law hin ns hns).mono ?_
      rintro e w2 ⟨mb, σ2, τ2, rfl, ha⟩
      clear hq1 hq2 e1 e2
      have ho2 := ha.store.obj ns mb ha.here
      have hlen : ∀ ty, (Builtin.len_ #[29] ty #[.map (.some mb)]).run Try.prog w2 = .ok (.int .i64 (cnt f0 l0 ns)) w2 := by
        obtain ⟨R, hR, _⟩ := ho2
        exact fun ty => hR.len (t := 29) Try.underlying29 ty
      have hq := fun w r => run_eql_map_nil (P := Try.prog) w 29 _ _ r Try.underlying29
      have cb := cnt_le f0 l0 ns
      have cb' : (cnt f0 l0 ns : Int) ≤ 1048576 := by omega
      go_wp2_with fail
      refine (setIn10 ho2 ⟨#[75]⟩ ns ⟨#[120]⟩ (by decide) hns (by decide) (key_x f0 l0 ns)).mono ?_
      rintro e w3 ⟨rfl, k3, z3, ho3⟩
      obtain ⟨hst3, hsh3, hct3, hkp3, bel3⟩ := ha.put k3 ho3
      have hla3 : Last w.heap.size hd ns f0 l0 f1 l1 w w3 σ2 τ2 mb := ⟨hst3, ha.here, ha.dom, hsh3, ha.tother, hct3, hkp3, bel3, by have := ha.big; have := ha.hge; have := k3.size; omega⟩
      clear ho2 hlen z3 hst3 hsh3 hct3 hkp3 bel3
      go_wp2_with fail
      refine (has11 hla3.store ⟨#[75]⟩ ns ⟨#[120]⟩ (by decide) hns (by decide) ha.here (by unfold keysX; rw [if_pos rfl]; exact .inl rfl)).mono ?_
      rintro e w4 ⟨rfl, k4, z4⟩
      have hla4 := hla3.keep k4
      have ho4 := ho3.keep k4 (fun x => x)
      have hold : ∀ b, σ ns = .some b → b ≠ mb → ObjIs w4 b (keys f0 l0 ns) (cnt f0 l0 ns) := fun b hb hne => ((ha.old b hb).keep k3 hne).keep k4 (fun x => x)
      have HO : Hid (∀ b, σ ns = .some b → b ≠ mb → ObjIs w4 b (keys f0 l0 ns) (cnt f0 l0 ns)) := hold
      clear z4 hold hla3 k4 k3
      have hlen4 : ∀ ty, (Builtin.len_ #[29] ty #[.map (.some mb)]).run Try.prog w4 = .ok (.int .i64 ((cnt f0 l0 ns : Int) + 1)) w4 := by
        obtain ⟨R, hR, _⟩ := ho4
        exact fun ty => hR.len (t := 29) Try.underlying29 ty
      have hmb : σ2 ns = .some mb := ha.here
      have htns := ha.tns
      obtain ⟨q5, hq5⟩ := hla4.shared
      by_cases hpos : 0 < cnt f0 l0 ns
      case' neg =>
        go_wp2_with (first
          | (go_at_call 8; refine (space8 hla4.store ns hns).mono ?_; rintro e w' ⟨rfl, rfl⟩)
          | (go_at_call 13; refine (isShared13 hla4.store hq5 ns hns).mono ?_; rintro e w' ⟨rfl, rfl⟩))
      case' pos =>
        have hpos' : (0 : Int) < (cnt f0 l0 ns : Int) := by omega
        obtain ⟨b, hσ⟩ : ∃ b, σ ns = .some b := by
          cases hs : σ ns with
          | none => have := (hin.dom ns).1 hs; omega
          | some b => exact ⟨b, rfl⟩
        cases htau : tau (cnt f0 l0) f1 l1 ns
        case' false =>
          have hbm := ha.own htau b hσ
          subst hbm
          go_wp2_with (first
            | (go_at_call 8; refine (space8 hla4.store ns hns).mono ?_; rintro e w' ⟨rfl, rfl⟩)
            | (go_at_call 12; refine (mapHas12 ho4 ⟨#[75]⟩ ns ⟨#[120]⟩ (by decide) hns (by decide) (.inl rfl)).mono ?_; rintro e w' ⟨rfl, rfl⟩)
            | (go_at_call 13; refine (isShared13 hla4.store hq5 ns hns).mono ?_; rintro e w' ⟨rfl, rfl⟩))
        case' true =>
          have hob := HO.out b hσ (ha.new htau b hσ)
          have hlenb : ∀ ty, (Builtin.len_ #[29] ty #[.map (.some b)]).run Try.prog w4 = .ok (.int .i64 (cnt f0 l0 ns)) w4 := by
            obtain ⟨R, hR, _⟩ := hob
            exact fun ty => hR.len (t := 29) Try.underlying29 ty
          go_wp2_with (first
            | (go_at_call 8; refine (space8 hla4.store ns hns).mono ?_; rintro e w' ⟨rfl, rfl⟩)
            | (go_at_call 12; refine (mapHasNot12 hob ⟨#[75]⟩ ns ⟨#[120]⟩ (by decide) hns (by decide) (key_x f0 l0 ns)).mono ?_; rintro e w' ⟨rfl, rfl⟩)
            | (go_at_call 13; refine (isShared13 hla4.store hq5 ns hns).mono ?_; rintro e w' ⟨rfl, rfl⟩))
      all_goals
        clear hin ha ho4 ho3 hlen4 hq5 HO hpos htns hmb
        go_loopg [15, 16, 17] l0 (fun q i _ _ wr => ∃ n mb', q = l0 - n ∧ n ≤ l0 ∧ i = .int .i64 (n : Nat) ∧ Last w.heap.size hd ns f0 l0 f1 l1 w wr σ2 τ2 mb')
        case atStart => exact ⟨0, _, rfl, Nat.zero_le _, rfl, hla4⟩
        case round =>
          obtain ⟨n, mb', rfl, hn, rfl, hl⟩ := hrel
          clear hla4
          by_cases hlt : n < l0
          · obtain ⟨b', off, rfl, hb, hc⟩ := h0.cell (by omega)
            have hck : wr.cell? ⟨b', off + n, none⟩ = .some (.string (f0 n)) := (hl.bel.cell (p := ⟨b', off + n, none⟩) hb).trans (hc n hlt)
            have hlt' : (n : Int) < (l0 : Int) := by omega
            have hsz := h0.size n hlt
            obtain ⟨bx, hbx⟩ := hl.some hlt
            have hnx := keysX_at (f0 := f0) (l0 := l0) ns hlt
            have cbx := cnt_le f0 l0 (f0 n)
            have cbx' : (cnt f0 l0 (f0 n) : Int) ≤ 1048576 := by omega
            clear hc h0 h1
            by_cases he : f0 n = ns
            · have hs1 := same_yes he
              have hcx : cntX f0 l0 ns (f0 n) = cnt f0 l0 (f0 n) + 1 := by unfold cntX; rw [if_pos he, he]
              have HC : Hid (cntX f0 l0 ns (f0 n) = cnt f0 l0 (f0 n) + 1) := hcx
              have hne : True := trivial
              clear he hcx hne
              go_wp2_with (first
                | (go_at_call 14; refine (itoa_any n (by omega) _).mono ?_; rintro e w5 ⟨rfl, k5, z5⟩; have hl5 := hl.keep k5; clear z5)
                | (go_at_call 11; refine (has11 hl5.store ⟨#[75]⟩ (f0 n) (itoa n) (by decide) hsz (itoa_size (by omega)) hbx hnx).mono ?_; rintro e w6 ⟨rfl, k6, z6⟩; have hl6 := hl5.keep k6; obtain ⟨q6, hq6⟩ := hl6.counts; have e6 := look_count hq6 hsz; clear z6)
                | (go_at_call 8; refine (space8 hl6.store (f0 n) hsz).mono ?_; rintro e w' ⟨rfl, rfl⟩; have hl7 : ∀ ty, (Builtin.len_ #[29] ty #[.map (.some bx)]).run Try.prog w6 = .ok (.int .i64 ((cnt f0 l0 (f0 n) : Int) + 1)) w6 := len_of (hl6.store.obj _ _ hbx) HC.out))
              go_roundg (l0 - (n + 1))
              case measure => omega
              case rel => exact ⟨n + 1, mb', rfl, by omega, by go_num, hl6⟩
            · have hs1 := same_no he
              have hcx : cntX f0 l0 ns (f0 n) = cnt f0 l0 (f0 n) := by unfold cntX; rw [if_neg he]
              have HC : Hid (cntX f0 l0 ns (f0 n) = cnt f0 l0 (f0 n)) := hcx
              clear he hcx
              go_wp2_with (first
                | (go_at_call 14; refine (itoa_any n (by omega) _).mono ?_; rintro e w5 ⟨rfl, k5, z5⟩; have hl5 := hl.keep k5; clear z5)
                | (go_at_call 11; refine (has11 hl5.store ⟨#[75]⟩ (f0 n) (itoa n) (by decide) hsz (itoa_size (by omega)) hbx hnx).mono ?_; rintro e w6 ⟨rfl, k6, z6⟩; have hl6 := hl5.keep k6; obtain ⟨q6, hq6⟩ := hl6.counts; have e6 := look_count hq6 hsz; clear z6)
                | (go_at_call 8; refine (space8 hl6.store (f0 n) hsz).mono ?_; rintro e w' ⟨rfl, rfl⟩; have hl7 : ∀ ty, (Builtin.len_ #[29] ty #[.map (.some bx)]).run Try.prog w6 = .ok (.int .i64 (cnt f0 l0 (f0 n) : Int)) w6 := len_of (hl6.store.obj _ _ hbx) HC.out))
              go_roundg (l0 - (n + 1))
              case measure => omega
              case rel => exact ⟨n + 1, mb', rfl, by omega, by go_num, hl6⟩
          · obtain rfl : n = l0 := by omega
            have hlt' : ¬ (n : Int) < (n : Int) := by omega
            go_wp2_with fail
            go_loopg [18, 19] l1 (fun q i _ wx => ∃ j mb', q = l1 - j ∧ j ≤ l1 ∧ i = .int .i64 (j : Nat) ∧ Last w.heap.size hd ns f0 n f1 l1 w wx σ2 τ2 mb')
            case atStart => exact ⟨0, _, rfl, Nat.zero_le _, rfl, hl⟩
            case round =>
              obtain ⟨j, mb2, rfl, hj, rfl, hl2⟩ := hrel
              clear hl
              by_cases hlt2 : j < l1
              · obtain ⟨b', off, rfl, hb, hc⟩ := h1.cell (by omega)
                have hck : wr.cell? ⟨b', off + j, none⟩ = .some (.string (f1 j)) := (hl2.bel.cell (p := ⟨b', off + j, none⟩) hb).trans (hc j hlt2)
                have hlt3 : (j : Int) < (l1 : Int) := by omega
                have hsz := h1.size j hlt2
                obtain ⟨q6, hq6⟩ := hl2.kept
                obtain ⟨q7, hq7⟩ := hl2.shared
                have e6 : ∀ k, (Instr.lookup 26 (.map (.some (hd + 1))) (.string (f1 j)) false).run Try.prog (wr.drewN k) = .ok (.bool (tau (cnt f0 n) f1 l1 (f1 j))) (wr.drewN k) := fun k => look_shared (hq6.keep (Kept.drewN (fun _ => False) wr k) (fun x => x)) hsz
                clear hc h0 h1
                by_cases he : f1 j = ns
                · have hs1 := same_yes he
                  clear he
                  go_wp2_with fail
                  go_quiet (fail)
                  go_wp2_with fail
                  go_roundg (l1 - (j + 1))
                  case measure => omega
                  case rel => exact ⟨j + 1, mb2, rfl, by omega, by go_num, hl2.keep (Kept.drewN _ _ _)⟩
                · have hs1 := same_no he
                  have ht := hl2.tother _ he
                  clear he
                  go_wp2_with fail
                  go_quiet ((go_at_call 13; exact Calls.quiet_of_same (isShared13' hl2.store hq7 (f1 j) hsz _)))
                  go_wp2_with fail
                  go_roundg (l1 - (j + 1))
                  case measure => omega
                  case rel => exact ⟨j + 1, mb2, rfl, by omega, by go_num, hl2.keep (Kept.drewN _ _ _)⟩
              · go_wp2_with fail
                go_ret
                exact ⟨rfl, hl2.bel⟩
end Go.Proofs.Qxb6613136a
