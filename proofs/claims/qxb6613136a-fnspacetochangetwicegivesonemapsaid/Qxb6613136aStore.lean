/-
  The contracts of the store's small functions.
-/
import Derived.Test.Qxb6613136aMaps
import Derived.WalkSpells
import Derived.WalkLawsBesides
import Derived.Laws.Externs
import Derived.Deep.QuietTactic
import Derived.BigQuiet
import Derived.Outline
namespace Go.Proofs.Qxb6613136a
open Go.RowKit Go.Maps

set_option maxRecDepth 100000
section
variable (w : World)
theorem run_clone {r : Nat} {es : Array MapEntry} {clock : Nat} (t : TypeId) (hb : w.heap[r]? = some (.map es clock)) :
    (Extern.MapsClone.clone #[.iface t (.map (some r))]).run Try.prog w = .ok (.iface t (.map (some w.heap.size))) (w.alloc (.map es clock)) := by
  change Sem.run Try.prog (getObj r >>= _) w = _
  simp [MapKept.run_getObj_map hb, Result.andThen, go_sem]
theorem run_assert_map (t xT k e : TypeId) (v : Value) (h : Try.prog.underlying t = some (.map k e)) : (Instr.typeAssert (.iface t v) xT t false).run Try.prog w = .ok v w := by
  simp [Instr.typeAssert, run_underlying h, go_sem, Result.andThen]
end

set_option maxHeartbeats 400000 in
theorem clone20 (b : Nat) (es : Array MapEntry) (clock : Nat) (w : World) (hb : w.heap[b]? = some (.map es clock)) :
    Calls Try.prog 20 #[.map (some b)] w fun e w' => e = .returned (.map (some w.heap.size)) ∧ w' = w.alloc (.map es clock) := by
  have hq := fun w => run_eql_map_nil (P := Try.prog) w 29 _ _ (some b) Try.underlying29
  go_enter Try.func20, Try.ntmps20
  go_wp2
  rw [run_callFunc_extern Try.func21 (by kernel_rfl) (by kernel_rfl) (by kernel_rfl) (e := Extern.MapsClone.clone) (by kernel_rfl), run_clone w 29 hb]
  simp only [Result.andThen]
  rw [Oper.upon_value]
  go_wp2
  rw [run_assert_map _ 29 20 _ _ _ Try.underlying29]
  simp only [Result.andThen]
  rw [Oper.upon_value]
  go_wp2
  go_ret
  exact ⟨rfl, rfl⟩

/-- the spaces: namespace s has the map in block b -/
def Sp (σ : ByteArray → Option Nat) (x v : Value) : Prop := ∃ s b, x = .string s ∧ σ s = some b ∧ v = .map (some b)
/-- the namespaces that are shared | kept -/
def Sh (τ : ByteArray → Bool) (x v : Value) : Prop := ∃ s, x = .string s ∧ τ s = true ∧ v = .bool true
/-- how many objects a namespace has -/
def Cn (c : ByteArray → Nat) (x v : Value) : Prop := ∃ s, x = .string s ∧ 0 < c s ∧ v = .int .i64 (c s)

/-- block b is a map of n objects, under the keys of κ -/
def ObjIs (w : World) (b : Nat) (κ : Value → Prop) (n : Nat) : Prop := ∃ R, MapIs 72 w b R n ∧ ∀ x, (∃ v, R x v) ↔ κ x

theorem ObjIs.keep {S : Nat → Prop} {w w' : World} {b n : Nat} {κ : Value → Prop} (h : ObjIs w b κ n) (g : Kept S w w') (hs : ¬ S b) : ObjIs w' b κ n := by
  obtain ⟨R, hm, hr⟩ := h
  exact ⟨R, hm.keep g hs, hr⟩
theorem ObjIs.congr {w : World} {b n : Nat} {κ κ' : Value → Prop} (h : ObjIs w b κ n) (hk : ∀ x, κ x ↔ κ' x) : ObjIs w b κ' n := by
  obtain ⟨R, hm, hr⟩ := h
  exact ⟨R, hm, fun x => (hr x).trans (hk x)⟩
theorem ObjIs.lt {w : World} {b n : Nat} {κ : Value → Prop} (h : ObjIs w b κ n) : b < w.heap.size := by
  obtain ⟨R, hm, hr⟩ := h
  exact hm.lt

/-- THE STORE IN BLOCK st: its spaces in block sp, its shared map in sh; X: blocks that are no space's; σ, κ, c: which block each namespace's map lies in, its keys, how many. -/
structure Store (B : Nat) (X : Nat → Prop) (w : World) (st sp : Nat) (sh : Option Nat) (σ : ByteArray → Option Nat) (κ : ByteArray → Value → Prop) (c : ByteArray → Nat) : Prop where
  xst : X st
  xsp : X sp
  xsh : ∀ h, sh = some h → X h
  xlt : ∀ k, X k → B ≤ k ∧ k < w.heap.size
  nst : st ≠ sp
  nsh : ∀ h, sh = some h → h ≠ sp ∧ h ≠ st
  c6 : w.cell? ⟨st, 6, none⟩ = some (.map (some sp))
  c7 : w.cell? ⟨st, 7, none⟩ = some (.map sh)
  fz : w.frozen? ⟨st, 7, none⟩ = false
  spaces : ∃ m, MapIs 9 w sp (Sp σ) m
  inj : ∀ s s' b, σ s = some b → σ s' = some b → s = s'
  ge : ∀ s b, σ s = some b → B ≤ b ∧ ¬ X b
  obj : ∀ s b, σ s = some b → ObjIs w b (κ s) (c s)

theorem cell_keep {S : Nat → Prop} {w w' : World} {b o : Nat} {v : Value} (h : w.cell? ⟨b, o, none⟩ = some v) (g : Kept S w w') (hb : b < w.heap.size) (hs : ¬ S b) : w'.cell? ⟨b, o, none⟩ = some v :=
  (World.cell?_of_block (w := w) (a := ⟨b, o, none⟩) (g.block b hb hs)).trans h
theorem frozen_keep {S : Nat → Prop} {w w' : World} {b o : Nat} {v : Bool} (h : w.frozen? ⟨b, o, none⟩ = v) (g : Kept S w w') (hb : b < w.heap.size) (hs : ¬ S b) : w'.frozen? ⟨b, o, none⟩ = v :=
  (World.frozen?_of_block (w := w) (a := ⟨b, o, none⟩) (g.block b hb hs)).trans h

/-- whatever turns no block of X and no space's block keeps the store -/
theorem Store.keep {B : Nat} {X S : Nat → Prop} {w w' : World} {st sp : Nat} {sh : Option Nat} {σ : ByteArray → Option Nat} {κ : ByteArray → Value → Prop} {c : ByteArray → Nat}
    (h : Store B X w st sp sh σ κ c) (g : Kept S w w') (h1 : ¬ S st) (h2 : ¬ S sp) (h3 : ∀ s b, σ s = some b → ¬ S b) : Store B X w' st sp sh σ κ c := by
  obtain ⟨m, hm⟩ := h.spaces
  refine ⟨h.xst, h.xsp, h.xsh, fun k hk => ⟨(h.xlt k hk).1, Nat.lt_of_lt_of_le (h.xlt k hk).2 g.size⟩, h.nst, h.nsh, cell_keep h.c6 g (h.xlt _ h.xst).2 h1, cell_keep h.c7 g (h.xlt _ h.xst).2 h1, frozen_keep h.fz g (h.xlt _ h.xst).2 h1, ⟨m, hm.keep g h2⟩, h.inj, h.ge, fun s b hb => (h.obj s b hb).keep g (h3 s b hb)⟩

set_option maxHeartbeats 400000 in
theorem new16 (w : World) :
    Calls Try.prog 16 #[] w fun e w' => e = .returned (.pointer (some ⟨w.heap.size + 1, 0, none⟩)) ∧ Kept (fun _ => False) w w' ∧ w'.heap.size = w.heap.size + 2 ∧
      w'.cell? ⟨w.heap.size + 1, 6, none⟩ = some (.map (some w.heap.size)) ∧ w'.cell? ⟨w.heap.size + 1, 7, none⟩ = some (.map none) ∧ w'.frozen? ⟨w.heap.size + 1, 7, none⟩ = false ∧ MapIs 9 w' w.heap.size (fun _ _ => False) 0 := by
  have hmm := @run_makeMap Try.prog
  go_enter Try.func16, Try.ntmps16
  go_wp2
  go_ret
  refine ⟨rfl, (Kept.alloc _ _ _).trans (Kept.alloc _ _ _), by simp, by go_simp, by go_simp, by go_simp, (MapIs.made w 9).keep (Kept.alloc (fun _ => False) _ _) (fun h => h)⟩

/-- the namespace gets another map: a new block -/
theorem Store.rebind {B : Nat} {X : Nat → Prop} {w w' : World} {st sp : Nat} {sh : Option Nat} {σ : ByteArray → Option Nat} {κ : ByteArray → Value → Prop} {c : ByteArray → Nat}
    (h : Store B X w st sp sh σ κ c) (g : Kept (fun k => k = sp ∨ sh = some k) w w') (ns : ByteArray) (nb : Nat) (hnb : w.heap.size ≤ nb) {κ0 : Value → Prop} {n0 m : Nat} (ho : ObjIs w' nb κ0 n0)
    (hm : MapIs 9 w' sp (fun y u => (y = .string ns ∧ u = .map (some nb)) ∨ (y ≠ .string ns ∧ Sp σ y u)) m) :
    Store B X w' st sp sh (fun s => if s = ns then some nb else σ s) (fun s x => if s = ns then κ0 x else κ s x) (fun s => if s = ns then n0 else c s) := by
  have hst : ¬ (st = sp ∨ sh = some st) := fun hh => hh.elim h.nst (fun e => (h.nsh _ e).2 rfl)
  have hold : ∀ s b, σ s = some b → b < w.heap.size := fun s b hb => (h.obj s b hb).lt
  refine ⟨h.xst, h.xsp, h.xsh, fun k hk => ⟨(h.xlt k hk).1, Nat.lt_of_lt_of_le (h.xlt k hk).2 g.size⟩, h.nst, h.nsh, cell_keep h.c6 g (h.xlt _ h.xst).2 hst, cell_keep h.c7 g (h.xlt _ h.xst).2 hst, frozen_keep h.fz g (h.xlt _ h.xst).2 hst, ⟨m, hm.congr ?_⟩, ?_, ?_, ?_⟩
  · intro y u
    constructor
    · rintro (⟨rfl, rfl⟩ | ⟨hne, s, b, rfl, hs, rfl⟩)
      · exact ⟨ns, nb, rfl, by simp, rfl⟩
      · exact ⟨s, b, rfl, by show (if s = ns then some nb else σ s) = some b; rw [if_neg (fun e => hne (by rw [e]))]; exact hs, rfl⟩
    · rintro ⟨s, b, rfl, hs, rfl⟩
      replace hs : (if s = ns then some nb else σ s) = some b := hs
      by_cases e : s = ns
      · rw [if_pos e] at hs
        cases hs
        exact .inl ⟨by rw [e], rfl⟩
      · rw [if_neg e] at hs
        exact .inr ⟨fun hh => e (by cases hh; rfl), s, b, rfl, hs, rfl⟩
  · intro s s' b h1 h2
    by_cases e : s = ns
    · by_cases e' : s' = ns
      · rw [e, e']
      · rw [if_pos e] at h1
        rw [if_neg e'] at h2
        cases h1
        have := hold _ _ h2
        omega
    · rw [if_neg e] at h1
      by_cases e' : s' = ns
      · rw [if_pos e'] at h2
        cases h2
        have := hold _ _ h1
        omega
      · rw [if_neg e'] at h2
        exact h.inj s s' b h1 h2
  · intro s b h1
    by_cases e : s = ns
    · rw [if_pos e] at h1
      cases h1
      have h3 := h.xlt _ h.xst
      exact ⟨by omega, fun hx => by have := (h.xlt _ hx).2; omega⟩
    · rw [if_neg e] at h1
      exact h.ge s b h1
  · intro s b h1
    by_cases e : s = ns
    · rw [if_pos e] at h1
      cases h1
      simp only [e, if_true]
      exact ho
    · rw [if_neg e] at h1
      simp only [e, if_false]
      refine (h.obj s b h1).keep g ?_
      rintro (rfl | hh)
      · exact (h.ge s _ h1).2 h.xsp
      · exact (h.ge s _ h1).2 (h.xsh _ hh)

theorem zero29 (w : World) : (zeroValue 29).run Try.prog w = .ok (.map none) w := by kernel_rfl
theorem zero4 (w : World) : (zeroValue 4).run Try.prog w = .ok (.bool false) w := by kernel_rfl
theorem zero3 (w : World) : (zeroValue 3).run Try.prog w = .ok (.int .i64 0) w := by kernel_rfl
theorem zero70 (w : World) : (zeroValue 70).run Try.prog w = .ok .nilIface w := by kernel_rfl

section
variable {B : Nat} {X : Nat → Prop} {w : World} {st sp : Nat} {sh : Option Nat} {σ : ByteArray → Option Nat} {κ : ByteArray → Value → Prop} {c : ByteArray → Nat}

theorem Store.space_some (h : Store B X w st sp sh σ κ c) {ns : ByteArray} (hns : ns.size ≤ maxLen) {b : Nat} (hb : σ ns = some b) :
    (Instr.lookup 50 (.map (some sp)) (.string ns) false).run Try.prog w = .ok (.map (some b)) w := by
  obtain ⟨m, hm⟩ := h.spaces
  exact hm.look_some (t := 50) kS Try.underlying50 (keyS hns) ⟨ns, b, rfl, hb, rfl⟩ false

theorem Store.space_none (h : Store B X w st sp sh σ κ c) {ns : ByteArray} (hns : ns.size ≤ maxLen) (hno : σ ns = none) :
    (Instr.lookup 50 (.map (some sp)) (.string ns) false).run Try.prog w = .ok (.map none) w := by
  obtain ⟨m, hm⟩ := h.spaces
  exact hm.look_none (t := 50) kS Try.underlying50 (zero29 _) (keyS hns) (by rintro v ⟨s, b, e1, e2, _⟩; cases e1; rw [hno] at e2; cases e2) false

theorem look_shared {τ : ByteArray → Bool} {h m : Nat} (hm : MapIs 9 w h (Sh τ) m) {ns : ByteArray} (hns : ns.size ≤ maxLen) :
    (Instr.lookup 26 (.map (some h)) (.string ns) false).run Try.prog w = .ok (.bool (τ ns)) w := by
  cases ht : τ ns with
  | true => exact hm.look_some (t := 26) kS Try.underlying26 (keyS hns) ⟨ns, rfl, ht, rfl⟩ false
  | false => exact hm.look_none (t := 26) kS Try.underlying26 (zero4 _) (keyS hns) (by rintro v ⟨s, e1, e2, _⟩; cases e1; rw [ht] at e2; cases e2) false

theorem look_count {cc : ByteArray → Nat} {h m : Nat} (hm : MapIs 9 w h (Cn cc) m) {ns : ByteArray} (hns : ns.size ≤ maxLen) :
    (Instr.lookup 25 (.map (some h)) (.string ns) false).run Try.prog w = .ok (.int .i64 (cc ns)) w := by
  by_cases ht : 0 < cc ns
  · exact hm.look_some (t := 25) kS Try.underlying25 (keyS hns) ⟨ns, rfl, ht, rfl⟩ false
  · rw [hm.look_none (t := 25) kS Try.underlying25 (zero3 _) (keyS hns) (by rintro v ⟨s, e1, e2, _⟩; cases e1; exact ht e2) false, show cc ns = 0 by omega]
    rfl

set_option maxHeartbeats 400000 in
/-- the namespace has no map yet -/
theorem change_new (h : Store B X w st sp sh σ κ c) (ns : ByteArray) (hns : ns.size ≤ maxLen) (hno : σ ns = none) :
    Calls Try.prog 18 #[.pointer (some ⟨st, 0, none⟩), .string ns] w fun e w' => e = .returned (.map (some w.heap.size)) ∧ Kept (fun k => k = sp) w w' ∧ w'.heap.size = w.heap.size + 1 ∧
      Store B X w' st sp sh (fun s => if s = ns then some w.heap.size else σ s) (fun s x => if s = ns then False else κ s x) (fun s => if s = ns then 0 else c s) := by
  obtain ⟨m, hm⟩ := h.spaces
  have hmm := @run_makeMap Try.prog
  have hq := fun w r => run_eql_map_nil (P := Try.prog) w 29 _ _ r Try.underlying29
  have c6 := h.c6
  have hl := h.space_none hns hno
  have c6' := cell_keep h.c6 (Kept.alloc (fun _ => False) w (.map #[] 0)) (h.xlt _ h.xst).2 (fun g => g)
  have hlt := hm.lt
  obtain ⟨w2, m2, hput, hm2, k2, z2, _⟩ := (hm.keep (Kept.alloc (fun _ => False) w (.map #[] 0)) (fun g => g)).put (t := 50) kS Try.underlying50 (keyS hns) (.map (some w.heap.size))
  have H2 : Hid (w2.heap.size = w.heap.size + 1) := by show _ = _; rw [z2]; simp
  clear z2 hm
  go_enter Try.func18, Try.ntmps18
  go_wp2
  go_ret
  have kk : Kept (fun k => k = sp) w w2 := (Kept.alloc _ w (.map #[] 0)).trans k2
  refine ⟨rfl, kk, H2.out, h.rebind (kk.mono fun k e => .inl e) ns w.heap.size (Nat.le_refl _) (κ0 := fun _ => False) (n0 := 0) ?_ hm2⟩
  refine ⟨fun _ _ => False, (MapIs.made w 72).keep k2 (by omega), fun x => ⟨fun hh => hh.elim fun _ f => f, fun f => f.elim⟩⟩

set_option maxHeartbeats 400000 in
/-- the namespace has a map that no snapshot shares: no snapshot is there -/
theorem change_old (h : Store B X w st sp none σ κ c) (ns : ByteArray) (hns : ns.size ≤ maxLen) {b : Nat} (hb : σ ns = some b) :
    Calls Try.prog 18 #[.pointer (some ⟨st, 0, none⟩), .string ns] w fun e w' => e = .returned (.map (some b)) ∧ w = w' := by
  have hq := fun w r => run_eql_map_nil (P := Try.prog) w 29 _ _ r Try.underlying29
  have c6 := h.c6
  have c7 := h.c7
  have hl := h.space_some hns hb
  have hn := look_nil (w := w) (t := 26) kS Try.underlying26 (zero4 _) (keyS hns) false
  go_enter Try.func18, Try.ntmps18
  go_wp2
  go_ret
  exact ⟨rfl, rfl⟩

set_option maxHeartbeats 400000 in
/-- .. or the snapshot does not share this one -/
theorem change_own {hb : Nat} (h : Store B X w st sp (some hb) σ κ c) {τ : ByteArray → Bool} {m : Nat} (hm : MapIs 9 w hb (Sh τ) m) (ns : ByteArray) (hns : ns.size ≤ maxLen) (hno : τ ns = false) {b : Nat} (hs : σ ns = some b) :
    Calls Try.prog 18 #[.pointer (some ⟨st, 0, none⟩), .string ns] w fun e w' => e = .returned (.map (some b)) ∧ w = w' := by
  have hq := fun w r => run_eql_map_nil (P := Try.prog) w 29 _ _ r Try.underlying29
  have c6 := h.c6
  have c7 := h.c7
  have hl := h.space_some hns hs
  have hn := look_shared hm hns
  go_enter Try.func18, Try.ntmps18
  go_wp2
  go_ret
  exact ⟨rfl, rfl⟩

set_option maxHeartbeats 400000 in
/-- a snapshot shares it: it is copied -/
theorem change_shared {hb : Nat} (h : Store B X w st sp (some hb) σ κ c) {τ : ByteArray → Bool} {m : Nat} (hm : MapIs 9 w hb (Sh τ) m) (ns : ByteArray) (hns : ns.size ≤ maxLen) (hyes : τ ns = true) {b : Nat} (hs : σ ns = some b) :
    Calls Try.prog 18 #[.pointer (some ⟨st, 0, none⟩), .string ns] w fun e w' => e = .returned (.map (some w.heap.size)) ∧ Kept (fun k => k = sp ∨ some hb = some k) w w' ∧ w'.heap.size = w.heap.size + 1 ∧
      Store B X w' st sp (some hb) (fun s => if s = ns then some w.heap.size else σ s) (fun s x => if s = ns then κ ns x else κ s x) (fun s => if s = ns then c ns else c s) ∧
      ∃ m', MapIs 9 w' hb (Sh fun s => if s = ns then false else τ s) m' := by
  obtain ⟨m1, hm1⟩ := h.spaces
  obtain ⟨R, hR, hk⟩ := h.obj ns b hs
  obtain ⟨es, clock, heb, hcl⟩ := hR.cloned
  have hq := fun w r => run_eql_map_nil (P := Try.prog) w 29 _ _ r Try.underlying29
  have c6 := h.c6
  have c7 := h.c7
  have hl := h.space_some hns hs
  have hn := look_shared hm hns
  have ka := Kept.alloc (fun _ => False) w (.map es clock)
  have c6' := cell_keep h.c6 ka (h.xlt _ h.xst).2 (fun g => g)
  have hlt := hm1.lt
  have hlt2 := hm.lt
  obtain ⟨w2, m2, hput, hm2, k2, z2, _⟩ := (hm1.keep ka (fun g => g)).put (t := 50) kS Try.underlying50 (keyS hns) (.map (some w.heap.size))
  have c7' := cell_keep (cell_keep h.c7 ka (h.xlt _ h.xst).2 (fun g => g)) k2 (Nat.lt_of_lt_of_le (h.xlt _ h.xst).2 ka.size) h.nst
  have hne := (h.nsh hb rfl).1
  obtain ⟨w3, m3, hdel, hm3, k3, z3⟩ := ((hm.keep ka (fun g => g)).keep k2 hne).drop (t := 26) kS Try.underlying26 (keyS hns) 0
  have H3 : Hid (w3.heap.size = w.heap.size + 1) := by show _ = _; rw [z3, z2]; simp
  clear z2 z3 hm1
  go_enter Try.func18, Try.ntmps18
  go_wp2_with (first | (go_at_call 20; refine (clone20 b es clock _ heb).mono ?_; rintro e w' ⟨rfl, rfl⟩))
  go_ret
  have kk : Kept (fun k => k = sp ∨ some hb = some k) w w3 := ((ka.mono fun _ f => f.elim).trans (k2.mono fun _ e => .inl e)).trans (k3.mono fun _ e => .inr (by rw [e]))
  have ho : ObjIs w3 w.heap.size (κ ns) (c ns) := ⟨R, (hcl.keep k2 (by omega)).keep k3 (by omega), hk⟩
  refine ⟨rfl, kk, H3.out, h.rebind kk ns w.heap.size (Nat.le_refl _) ho (hm2.keep k3 (fun e => hne e.symm)), m3, hm3.congr ?_⟩
  intro y u
  constructor
  · rintro ⟨hy, s, rfl, hs, rfl⟩
    exact ⟨s, rfl, by show (if s = ns then false else τ s) = true; rw [if_neg (fun e => hy (by rw [e]))]; exact hs, rfl⟩
  · rintro ⟨s, rfl, hs, rfl⟩
    replace hs : (if s = ns then false else τ s) = true := hs
    by_cases e : s = ns
    · rw [if_pos e] at hs; cases hs
    · rw [if_neg e] at hs
      exact ⟨fun hh => e (by cases hh; rfl), s, rfl, hs, rfl⟩
end

/-- 'm[k] = v' at the operation -/
theorem wpList_put (w : World) {ops : Array Oper} {rest : List Oper} {o : Oper} {a : Act} {Q : Exit → Act → World → Prop} (hg : o.guard = none) (m x v : Operand) (t : TypeId) (hop : o.op = Op.mapUpdate t m x v)
    {k e : TypeId} (K : Keyed Try.prog k) (ht : Try.prog.underlying t = some (.map k e)) {R : Value → Value → Prop} {b n : Nat} (hm : a.eval m = .map (some b)) (h : MapIs k w b R n) (key val : Value) (hx : a.eval x = key) (hv : a.eval v = val) (hkey : Keyish k key)
    (hK : ∀ w' n', MapIs k w' b (fun y u => (y = key ∧ u = val) ∨ (y ≠ key ∧ R y u)) n' → Kept (fun j => j = b) w w' → Hid (w'.heap.size = w.heap.size) → Hid (((∀ u, ¬ R key u) ∧ n' = n + 1) ∨ ((∃ u, R key u) ∧ n' = n)) → wpList Try.prog ops Q rest (a.put o.dst undef) w') :
    wpList Try.prog ops Q (o :: rest) a w := by
  refine wpList_plain hg fun K' hK' => ?_
  obtain ⟨w', n', hrun, r1, r2, r3, r4⟩ := h.put K ht hkey val
  unfold Oper.wp
  simp [execOp, hop, hm, hx, hv, hrun, Result.andThen]
  exact hK' _ _ (hK w' n' r1 r2 r3 r4)

/-- an object is laid into a map -/
theorem ObjIs.put {w' : World} {b n n' : Nat} {R : Value → Value → Prop} {κ : Value → Prop} {key v : Value} (hk : ∀ x, (∃ v, R x v) ↔ κ x) (hm : MapIs 72 w' b (fun y u => (y = key ∧ u = v) ∨ (y ≠ key ∧ R y u)) n')
    (hn : ((∀ u, ¬ R key u) ∧ n' = n + 1) ∨ ((∃ u, R key u) ∧ n' = n)) (hno : ¬ κ key) : ObjIs w' b (fun x => x = key ∨ κ x) (n + 1) := by
  rcases hn with ⟨_, rfl⟩ | ⟨h1, _⟩
  · refine ⟨_, hm, fun x => ?_⟩
    constructor
    · rintro ⟨u, ⟨rfl, _⟩ | ⟨_, hr⟩⟩
      · exact .inl rfl
      · exact .inr ((hk x).1 ⟨u, hr⟩)
    · rintro (rfl | hx)
      · exact ⟨v, .inl ⟨rfl, rfl⟩⟩
      · obtain ⟨u, hu⟩ := (hk x).2 hx
        exact ⟨u, .inr ⟨fun e => hno (by rw [← e]; exact hx), hu⟩⟩
  · exact absurd ((hk key).1 h1) hno

set_option maxHeartbeats 400000 in
theorem setIn10 {w : World} {b n : Nat} {κ : Value → Prop} (h : ObjIs w b κ n) (x y z : ByteArray) (hx : x.size ≤ maxLen) (hy : y.size ≤ maxLen) (hz : z.size ≤ maxLen) (hno : ¬ κ (kv x y z)) :
    Calls Try.prog 10 #[.map (some b), .string x, .string y, .string z] w fun e w' => e = .returned (.tuple #[]) ∧ Kept (fun k => k = b) w w' ∧ w'.heap.size = w.heap.size + 1 ∧ ObjIs w' b (fun u => u = kv x y z ∨ κ u) (n + 1) := by
  obtain ⟨R, hm, hk⟩ := h
  have key := keyT hx hy hz
  go_enter Try.func10, Try.ntmps10
  go_wp2_with (at_mapUpdate; refine wpList_put _ rfl _ _ _ 29 rfl kT Try.underlying29 rfl (hm.keep (Kept.alloc (fun _ => False) _ _) (fun g => g)) _ _ rfl rfl key ?_; intro w1 n1 hm1 k1 s1 c1)
  go_end0
  exact ⟨rfl, (Kept.alloc _ _ _).trans k1, by rw [s1.out]; simp, ObjIs.put hk hm1 c1.out hno⟩

set_option maxHeartbeats 400000 in
theorem mapHas12 {w : World} {b n : Nat} {κ : Value → Prop} (h : ObjIs w b κ n) (x y z : ByteArray) (hx : x.size ≤ maxLen) (hy : y.size ≤ maxLen) (hz : z.size ≤ maxLen) (hyes : κ (kv x y z)) :
    Calls Try.prog 12 #[.map (some b), .string x, .string y, .string z] w fun e w' => e = .returned (.bool true) ∧ w = w' := by
  obtain ⟨R, hm, hk⟩ := h
  have key := keyT hx hy hz
  obtain ⟨v, hv⟩ := (hk _).2 hyes
  have hl : (Instr.lookup 29 (.map (some b)) (.agg #[.string x, .string y, .string z]) true).run Try.prog w = .ok (.tuple #[v, .bool true]) w := hm.look_some (t := 29) kT Try.underlying29 key hv true
  clear hk hv key
  go_enter Try.func12, Try.ntmps12
  go_wp2
  go_ret
  exact ⟨rfl, rfl⟩

set_option maxHeartbeats 400000 in
theorem mapHasNot12 {w : World} {b n : Nat} {κ : Value → Prop} (h : ObjIs w b κ n) (x y z : ByteArray) (hx : x.size ≤ maxLen) (hy : y.size ≤ maxLen) (hz : z.size ≤ maxLen) (hno : ¬ κ (kv x y z)) :
    Calls Try.prog 12 #[.map (some b), .string x, .string y, .string z] w fun e w' => e = .returned (.bool false) ∧ w = w' := by
  obtain ⟨R, hm, hk⟩ := h
  have key := keyT hx hy hz
  have hl : (Instr.lookup 29 (.map (some b)) (.agg #[.string x, .string y, .string z]) true).run Try.prog w = .ok (.tuple #[.nilIface, .bool false]) w := hm.look_none (t := 29) kT Try.underlying29 (zero70 _) key (fun v hv => hno ((hk _).1 ⟨v, hv⟩)) true
  clear hk key hno
  go_enter Try.func12, Try.ntmps12
  go_wp2
  go_ret
  exact ⟨rfl, rfl⟩

section
variable {B : Nat} {X : Nat → Prop} {w : World} {st sp : Nat} {sh : Option Nat} {σ : ByteArray → Option Nat} {κ : ByteArray → Value → Prop} {c : ByteArray → Nat}

set_option maxHeartbeats 400000 in
theorem get19 (h : Store B X w st sp sh σ κ c) (x y z : ByteArray) (hx : x.size ≤ maxLen) (hy : y.size ≤ maxLen) (hz : z.size ≤ maxLen) {b : Nat} (hb : σ y = some b) (hyes : κ y (kv x y z)) :
    Calls Try.prog 19 #[.pointer (some ⟨st, 0, none⟩), .agg #[.string x, .string y, .string z]] w fun e w' => (∃ v, e = .returned (.tuple #[v, .bool true])) ∧ Kept (fun _ => False) w w' ∧ w'.heap.size = w.heap.size + 1 := by
  have k0 : ∀ n, Kept (fun _ => False) w ((w.alloc (.cells #[.string x, .string y, .string z] 72)).drewN n) := fun n => (Kept.alloc _ _ _).trans (Kept.drewN _ _ n)
  obtain ⟨R, hm, hk⟩ := h.obj y b hb
  have key := keyT hx hy hz
  obtain ⟨v, hv⟩ := (hk _).2 hyes
  have hl : ∀ n, (Instr.lookup 29 (.map (some b)) (.agg #[.string x, .string y, .string z]) true).run Try.prog ((w.alloc (.cells #[.string x, .string y, .string z] 72)).drewN n) = .ok (.tuple #[v, .bool true]) ((w.alloc (.cells #[.string x, .string y, .string z] 72)).drewN n) :=
    fun n => (hm.keep (k0 n) (fun g => g)).look_some (t := 29) kT Try.underlying29 key hv true
  have hs : ∀ n, (Instr.lookup 50 (.map (some sp)) (.string y) false).run Try.prog ((w.alloc (.cells #[.string x, .string y, .string z] 72)).drewN n) = .ok (.map (some b)) ((w.alloc (.cells #[.string x, .string y, .string z] 72)).drewN n) :=
    fun n => (h.keep (k0 n) (fun g => g) (fun g => g) (fun _ _ _ g => g)).space_some hy hb
  have c6 := cell_keep h.c6 (Kept.alloc (fun _ => False) w (.cells #[.string x, .string y, .string z] 72)) (h.xlt _ h.xst).2 (fun g => g)
  clear hk hv key hyes
  go_enter Try.func19, Try.ntmps19
  go_wp2
  go_quiet (fail)
  go_wp2
  go_ret2
  exact ⟨⟨v, rfl⟩, k0 _, by simp⟩

set_option maxHeartbeats 400000 in
theorem has11 (h : Store B X w st sp sh σ κ c) (x y z : ByteArray) (hx : x.size ≤ maxLen) (hy : y.size ≤ maxLen) (hz : z.size ≤ maxLen) {b : Nat} (hb : σ y = some b) (hyes : κ y (kv x y z)) :
    Calls Try.prog 11 #[.pointer (some ⟨st, 0, none⟩), .string x, .string y, .string z] w fun e w' => e = .returned (.bool true) ∧ Kept (fun _ => False) w w' ∧ w'.heap.size = w.heap.size + 1 := by
  have H := get19 h x y z hx hy hz hb hyes
  clear h hx hy hz hb hyes
  go_enter Try.func11, Try.ntmps11
  go_wp2_with (go_at_call 19; refine H.mono ?_; rintro e w' ⟨⟨v, rfl⟩, kk, s1⟩; replace s1 : Hid _ := s1)
  go_ret
  exact ⟨rfl, kk, s1⟩

set_option maxHeartbeats 400000 in
theorem space8 (h : Store B X w st sp sh σ κ c) (ns : ByteArray) (hns : ns.size ≤ maxLen) :
    Calls Try.prog 8 #[.pointer (some ⟨st, 0, none⟩), .string ns] w fun e w' => e = .returned (.map (σ ns)) ∧ w = w' := by
  have c6 := h.c6
  have hl : (Instr.lookup 50 (.map (some sp)) (.string ns) false).run Try.prog w = .ok (.map (σ ns)) w := by
    cases hs : σ ns with
    | none => exact h.space_none hns hs
    | some b => exact h.space_some hns hs
  clear h
  go_enter Try.func8, Try.ntmps8
  go_wp2
  go_ret
  exact ⟨rfl, rfl⟩

set_option maxHeartbeats 400000 in
theorem isShared13 {hb : Nat} (h : Store B X w st sp (some hb) σ κ c) {τ : ByteArray → Bool} {m : Nat} (hm : MapIs 9 w hb (Sh τ) m) (ns : ByteArray) (hns : ns.size ≤ maxLen) :
    Calls Try.prog 13 #[.pointer (some ⟨st, 0, none⟩), .string ns] w fun e w' => e = .returned (.bool (τ ns)) ∧ w = w' := by
  have c7 := h.c7
  have hl := look_shared hm hns
  clear h hm
  go_enter Try.func13, Try.ntmps13
  go_wp2
  go_ret
  exact ⟨rfl, rfl⟩

set_option maxHeartbeats 400000 in
theorem setShared17 (h : Store B X w st sp none σ κ c) (hb : Nat) (hx : X hb) (h1 : hb ≠ sp) (h2 : hb ≠ st) :
    Calls Try.prog 17 #[.pointer (some ⟨st, 0, none⟩), .map (some hb)] w fun e w' => e = .returned (.tuple #[]) ∧ Kept (fun k => k = st) w w' ∧ w'.heap.size = w.heap.size ∧ Store B X w' st sp (some hb) σ κ c := by
  have c7 := h.c7
  have fz := h.fz
  go_enter Try.func17, Try.ntmps17
  go_wp2
  go_end0
  have kk := Kept.setCell w ⟨st, 7, none⟩ (.map (some hb))
  obtain ⟨m, hm⟩ := h.spaces
  refine ⟨rfl, kk, by simp, ⟨h.xst, h.xsp, fun k e => by cases e; exact hx, fun k hk => by rw [World.size_setCell]; exact h.xlt k hk, h.nst, fun k e => by cases e; exact ⟨h1, h2⟩, ?_, World.cell?_setCell_same _ _ _ h.c7, by rw [World.frozen?_setCell]; exact h.fz, ⟨m, hm.keep kk (fun e => h.nst e.symm)⟩, h.inj, h.ge, fun s b hs => (h.obj s b hs).keep kk (fun e => (h.ge s b hs).2 (by rw [e]; exact h.xst))⟩⟩
  rw [World.cell?_setCell_other _ _ _ _ (by simp)]
  exact h.c6

set_option maxHeartbeats 400000 in
theorem to9_new (h : Store B X w st sp sh σ κ c) (ns : ByteArray) (hns : ns.size ≤ maxLen) (hno : σ ns = none) :
    Calls Try.prog 9 #[.pointer (some ⟨st, 0, none⟩), .string ns] w fun e w' => e = .returned (.map (some w.heap.size)) ∧ Kept (fun k => k = sp) w w' ∧ w'.heap.size = w.heap.size + 1 ∧
      Store B X w' st sp sh (fun s => if s = ns then some w.heap.size else σ s) (fun s x => if s = ns then False else κ s x) (fun s => if s = ns then 0 else c s) := by
  have H := change_new h ns hns hno
  clear h hno
  go_enter Try.func9, Try.ntmps9
  go_wp2_with (go_at_call 18; refine H.mono ?_; rintro e w' ⟨rfl, kk, s1, hh⟩; replace s1 : Hid _ := s1)
  go_ret
  exact ⟨rfl, kk, s1, hh⟩

set_option maxHeartbeats 400000 in
theorem to9_old (h : Store B X w st sp none σ κ c) (ns : ByteArray) (hns : ns.size ≤ maxLen) {b : Nat} (hb : σ ns = some b) :
    Calls Try.prog 9 #[.pointer (some ⟨st, 0, none⟩), .string ns] w fun e w' => e = .returned (.map (some b)) ∧ w = w' := by
  have H := change_old h ns hns hb
  clear h hb
  go_enter Try.func9, Try.ntmps9
  go_wp2_with (go_at_call 18; refine H.mono ?_; rintro e w' ⟨rfl, rfl⟩)
  go_ret
  exact ⟨rfl, rfl⟩

set_option maxHeartbeats 400000 in
theorem to9_own {hb : Nat} (h : Store B X w st sp (some hb) σ κ c) {τ : ByteArray → Bool} {m : Nat} (hm : MapIs 9 w hb (Sh τ) m) (ns : ByteArray) (hns : ns.size ≤ maxLen) (hno : τ ns = false) {b : Nat} (hs : σ ns = some b) :
    Calls Try.prog 9 #[.pointer (some ⟨st, 0, none⟩), .string ns] w fun e w' => e = .returned (.map (some b)) ∧ w = w' := by
  have H := change_own h hm ns hns hno hs
  clear h hm hno hs
  go_enter Try.func9, Try.ntmps9
  go_wp2_with (go_at_call 18; refine H.mono ?_; rintro e w' ⟨rfl, rfl⟩)
  go_ret
  exact ⟨rfl, rfl⟩

set_option maxHeartbeats 400000 in
theorem to9_shared {hb : Nat} (h : Store B X w st sp (some hb) σ κ c) {τ : ByteArray → Bool} {m : Nat} (hm : MapIs 9 w hb (Sh τ) m) (ns : ByteArray) (hns : ns.size ≤ maxLen) (hyes : τ ns = true) {b : Nat} (hs : σ ns = some b) :
    Calls Try.prog 9 #[.pointer (some ⟨st, 0, none⟩), .string ns] w fun e w' => e = .returned (.map (some w.heap.size)) ∧ Kept (fun k => k = sp ∨ some hb = some k) w w' ∧ w'.heap.size = w.heap.size + 1 ∧
      Store B X w' st sp (some hb) (fun s => if s = ns then some w.heap.size else σ s) (fun s x => if s = ns then κ ns x else κ s x) (fun s => if s = ns then c ns else c s) ∧
      ∃ m', MapIs 9 w' hb (Sh fun s => if s = ns then false else τ s) m' := by
  have H := change_shared h hm ns hns hyes hs
  clear h hm hyes hs
  go_enter Try.func9, Try.ntmps9
  go_wp2_with (go_at_call 18; refine H.mono ?_; rintro e w' ⟨rfl, kk, s1, hh, hx⟩; replace s1 : Hid _ := s1)
  go_ret
  exact ⟨rfl, kk, s1, hh, hx⟩
end
end Go.Proofs.Qxb6613136a
