/-
  Maps in memory, by the relation of keys and elements that they hold: the laws of the operations.
-/
import Derived.Test.Qxb6613136aRows
import Derived.WalkKit
import Derived.ProofKit
import Derived.Maps.OwnSet
import Derived.MapKept
import Derived.Deep.Draws
namespace Go.Proofs.Qxb6613136a
open Go.RowKit Go.Maps
open Go.ChangeMaps (setBlock heap_setBlock_same heap_setBlock_other modify_eq_set)

theorem laidOut : laidOutB Try.prog = true := by kernel_rfl

theorem kS : Keyed Try.prog 9 := Keyed.of_law (WideMaps.string_law Try.underlying9)
theorem kT : Keyed Try.prog 72 := Keyed.of_law (deep_law_laid laidOut (m := 100) (by decide) (of_decide_eq_true (by kernel_rfl)) (by kernel_rfl) (by kernel_rfl))

/-- a value that the reader can read as a key of type k -/
def Keyish (k : TypeId) (x : Value) : Prop := ∃ l, keyOf Try.prog k x = some l

/-- w' is w but for what the blocks of S hold, and for new blocks -/
structure Kept (S : Nat → Prop) (w w' : World) : Prop where
  os : w'.os = w.os
  tape : w'.tape = w.tape
  output : w'.output = w.output
  size : w.heap.size ≤ w'.heap.size
  block : ∀ k, k < w.heap.size → ¬ S k → w'.heap[k]? = w.heap[k]?

theorem Kept.refl (S : Nat → Prop) (w : World) : Kept S w w := ⟨rfl, rfl, rfl, Nat.le_refl _, fun _ _ _ => rfl⟩
theorem Kept.mono {S S' : Nat → Prop} {w w' : World} (h : Kept S w w') (hs : ∀ k, S k → S' k) : Kept S' w w' := ⟨h.os, h.tape, h.output, h.size, fun k hk hn => h.block k hk (fun g => hn (hs k g))⟩
theorem Kept.trans {S : Nat → Prop} {a b c : World} (h : Kept S a b) (g : Kept S b c) : Kept S a c :=
  ⟨g.os.trans h.os, g.tape.trans h.tape, g.output.trans h.output, Nat.le_trans h.size g.size, fun k hk hn => (g.block k (Nat.lt_of_lt_of_le hk h.size) hn).trans (h.block k hk hn)⟩
theorem Kept.alloc (S : Nat → Prop) (w : World) (o : Obj) : Kept S w (w.alloc o) := ⟨rfl, rfl, rfl, by rw [World.size_alloc]; omega, fun k hk _ => Below.heap_alloc w o k hk⟩
theorem Kept.drewN (S : Nat → Prop) (w : World) (n : Nat) : Kept S w (w.drewN n) := ⟨rfl, rfl, rfl, Nat.le_refl _, fun _ _ _ => rfl⟩
theorem Kept.setCell (w : World) (a : Addr) (v : Value) : Kept (fun k => k = a.block) w (w.setCell a v) := ⟨rfl, rfl, rfl, by rw [World.size_setCell]; exact Nat.le_refl _, fun _ _ hn => Below.heap_setCell _ _ _ _ hn⟩
theorem Kept.below {S : Nat → Prop} {B : Nat} {w0 w w' : World} (h : Below B w0 w) (g : Kept S w w') (hB : B ≤ w.heap.size) (hs : ∀ k, S k → B ≤ k) : Below B w0 w' :=
  ⟨g.os.trans h.os, g.tape.trans h.tape, g.output.trans h.output, Nat.le_trans h.size g.size, fun k hk => (g.block k (by omega) (fun x => by have := hs k x; omega)).trans (h.block k hk)⟩
theorem Kept.of_below {w w' : World} (h : Below w.heap.size w w') (S : Nat → Prop) : Kept S w w' := ⟨h.os, h.tape, h.output, h.size, fun k hk _ => h.block k hk⟩

/-- BLOCK b OF w IS A MAP OF n ENTRIES, WHOSE KEYS AND ELEMENTS ARE THE PAIRS OF R. -/
def MapIs (k : TypeId) (w : World) (b : Nat) (R : Value → Value → Prop) (n : Nat) : Prop :=
  ∃ (es : Array MapEntry) (clock : Nat), w.heap[b]? = some (.map es clock) ∧ es.size = n ∧ (∀ e ∈ es.toList, Keyish k e.key) ∧ (es.toList.map (·.key)).Nodup ∧ ∀ x v, R x v ↔ ∃ e ∈ es.toList, e.key = x ∧ e.val = v

section
variable {k t e : TypeId} {w : World} {b n : Nat} {R : Value → Value → Prop}

theorem MapIs.lt (h : MapIs k w b R n) : b < w.heap.size := by
  obtain ⟨es, clock, hb, _⟩ := h
  exact (Array.getElem?_eq_some_iff.1 hb).1

theorem MapIs.keep {S : Nat → Prop} {w' : World} (h : MapIs k w b R n) (g : Kept S w w') (hs : ¬ S b) : MapIs k w' b R n := by
  have hlt := h.lt
  obtain ⟨es, clock, hb, r⟩ := h
  exact ⟨es, clock, (g.block b hlt hs).trans hb, r⟩

theorem MapIs.congr {R' : Value → Value → Prop} (h : MapIs k w b R n) (hr : ∀ x v, R x v ↔ R' x v) : MapIs k w b R' n := by
  obtain ⟨es, clock, hb, h1, h2, h3, h4⟩ := h
  exact ⟨es, clock, hb, h1, h2, h3, fun x v => (hr x v).symm.trans (h4 x v)⟩

theorem MapIs.made (w : World) (k : TypeId) : MapIs k (w.alloc (.map #[] 0)) w.heap.size (fun _ _ => False) 0 :=
  ⟨#[], 0, (MapKept.heap_alloc w _).1, rfl, by simp, by simp, by simp⟩

theorem nodup_inj {α : Type} {l : List α} (hn : l.Nodup) {i j : Nat} {hi : i < l.length} {hj : j < l.length} (h : l[i] = l[j]) : i = j := by
  have hp := List.pairwise_iff_getElem.1 hn
  rcases Nat.lt_trichotomy i j with x | x | x
  · exact absurd h (hp i j hi hj x)
  · exact x
  · exact absurd h.symm (hp j i hj hi x)

/-- one entry a key -/
theorem entry_unique {l : List MapEntry} (hn : (l.map (·.key)).Nodup) {a c : MapEntry} (ha : a ∈ l) (hc : c ∈ l) (hk : a.key = c.key) : a = c := by
  obtain ⟨i, hi, rfl⟩ := List.getElem_of_mem ha
  obtain ⟨j, hj, rfl⟩ := List.getElem_of_mem hc
  have : i = j := by
    refine nodup_inj hn (hi := by simpa using hi) (hj := by simpa using hj) ?_
    simpa using hk
  subst this
  rfl

theorem MapIs.fn (h : MapIs k w b R n) {x u v : Value} (h1 : R x u) (h2 : R x v) : u = v := by
  obtain ⟨es, clock, hb, _, _, hn, h4⟩ := h
  obtain ⟨a, ha, ea, rfl⟩ := (h4 x u).1 h1
  obtain ⟨c, hc, ec, rfl⟩ := (h4 x v).1 h2
  rw [entry_unique hn ha hc (ea.trans ec.symm)]

theorem MapIs.look_some (h : MapIs k w b R n) (K : Keyed Try.prog k) (ht : Try.prog.underlying t = some (.map k e)) {x v : Value} (hx : Keyish k x) (hR : R x v) (c : Bool) :
    (Instr.lookup t (.map (some b)) x c).run Try.prog w = .ok (if c then .tuple #[v, .bool true] else v) w := by
  obtain ⟨es, clock, hb, _, hks, hn, h4⟩ := h
  obtain ⟨l, hkey⟩ := hx
  obtain ⟨a, ha, ea, rfl⟩ := (h4 x v).1 hR
  rcases K.find w hkey es.toList hks with ⟨h1, h2⟩ | ⟨j, e0, h1, h2, h3⟩
  · exact absurd ea (h2 a ha)
  · have : e0 = a := entry_unique hn (List.mem_of_getElem? h2) ha (h3.trans ea.symm)
    subst this
    simp [Instr.lookup, run_underlying ht, MapKept.run_getObj_map hb, K.check w _ hkey, h1, Result.andThen]

theorem MapIs.look_none (h : MapIs k w b R n) (K : Keyed Try.prog k) (ht : Try.prog.underlying t = some (.map k e)) {z x : Value} (hz : (zeroValue e).run Try.prog w = .ok z w) (hx : Keyish k x) (hR : ∀ v, ¬ R x v) (c : Bool) :
    (Instr.lookup t (.map (some b)) x c).run Try.prog w = .ok (if c then .tuple #[z, .bool false] else z) w := by
  obtain ⟨es, clock, hb, _, hks, hn, h4⟩ := h
  obtain ⟨l, hkey⟩ := hx
  rcases K.find w hkey es.toList hks with ⟨h1, h2⟩ | ⟨j, e0, h1, h2, h3⟩
  · simp [Instr.lookup, run_underlying ht, MapKept.run_getObj_map hb, K.check w _ hkey, h1, hz, Result.andThen]
  · exact absurd ((h4 x e0.val).2 ⟨e0, List.mem_of_getElem? h2, h3, rfl⟩) (hR _)

theorem look_nil (K : Keyed Try.prog k) (ht : Try.prog.underlying t = some (.map k e)) {z x : Value} (hz : (zeroValue e).run Try.prog w = .ok z w) (hx : Keyish k x) (c : Bool) :
    (Instr.lookup t (.map none) x c).run Try.prog w = .ok (if c then .tuple #[z, .bool false] else z) w := by
  obtain ⟨l, hkey⟩ := hx
  exact Maps.look_nil c K ht hz hkey

theorem MapIs.len (h : MapIs k w b R n) (ht : Try.prog.underlying t = some (.map k e)) (ty : TypeId) : (Builtin.len_ #[t] ty #[.map (some b)]).run Try.prog w = .ok (.int .i64 n) w := by
  obtain ⟨es, clock, hb, hs, _⟩ := h
  simp [Builtin.len_, run_underlying ht, MapKept.run_getObj_map hb, goInt, Result.andThen, hs]

theorem kept_setBlock {es : Array MapEntry} {clock : Nat} (hb : w.heap[b]? = some (.map es clock)) (o : Obj) : Kept (fun j => j = b) w (setBlock w b o) :=
  ⟨rfl, rfl, rfl, by simp [setBlock], fun _ _ hi => heap_setBlock_other hb o hi⟩

theorem MapIs.put (h : MapIs k w b R n) (K : Keyed Try.prog k) (ht : Try.prog.underlying t = some (.map k e)) {x : Value} (hx : Keyish k x) (v : Value) :
    ∃ w' n', (Instr.mapUpdate t (.map (some b)) x v).run Try.prog w = .ok () w' ∧ MapIs k w' b (fun y u => (y = x ∧ u = v) ∨ (y ≠ x ∧ R y u)) n' ∧ Kept (fun j => j = b) w w' ∧ w'.heap.size = w.heap.size ∧
      (((∀ u, ¬ R x u) ∧ n' = n + 1) ∨ ((∃ u, R x u) ∧ n' = n)) := by
  obtain ⟨es, clock, hb, hs, hks, hn, h4⟩ := h
  obtain ⟨l, hkey⟩ := hx
  rcases K.find w hkey es.toList hks with ⟨h1, h2⟩ | ⟨j, e0, h1, h2, h3⟩
  · refine ⟨setBlock w b (.map (es.push ⟨x, v, clock⟩) (clock + 1)), n + 1, ?_, ⟨_, _, heap_setBlock_same hb _, by simp [hs], ?_, ?_, ?_⟩, kept_setBlock hb _, by simp [setBlock], .inl ⟨?_, rfl⟩⟩
    · simp [Instr.mapUpdate, run_underlying ht, MapKept.run_getObj_map hb, K.check w false hkey, h1, MapKept.run_setObj_map _ hb, Result.andThen, setBlock]
    · intro y hy
      simp only [Array.toList_push, List.mem_append, List.mem_singleton] at hy
      rcases hy with hy | rfl
      · exact hks y hy
      · exact ⟨l, hkey⟩
    · rw [Array.toList_push, List.map_append, List.map_singleton]
      refine List.nodup_append.2 ⟨hn, by simp, ?_⟩
      intro a ha c hc
      simp only [List.mem_singleton] at hc
      subst hc
      obtain ⟨y, hy, rfl⟩ := List.mem_map.1 ha
      exact h2 y hy
    · intro y u
      simp only [Array.toList_push, List.mem_append, List.mem_singleton]
      constructor
      · rintro (⟨rfl, rfl⟩ | ⟨hne, hr⟩)
        · exact ⟨_, .inr rfl, rfl, rfl⟩
        · obtain ⟨a, ha, e1, e2⟩ := (h4 y u).1 hr
          exact ⟨a, .inl ha, e1, e2⟩
      · rintro ⟨a, ha | rfl, e1, e2⟩
        · exact .inr ⟨fun hh => h2 a ha (e1.trans hh), (h4 y u).2 ⟨a, ha, e1, e2⟩⟩
        · exact .inl ⟨e1.symm, e2.symm⟩
    · intro u hu
      obtain ⟨a, ha, e1, _⟩ := (h4 x u).1 hu
      exact h2 a ha e1
  · have hj : es[j]? = some e0 := by simpa using h2
    have hlist : (es.modify j (fun e' => { e' with key := x, val := v })).toList = es.toList.set j { e0 with key := x, val := v } := by rw [Array.toList_modify, modify_eq_set _ _ _ _ h2]
    have hjl : j < es.toList.length := (List.getElem?_eq_some_iff.1 h2).1
    have hgj : es.toList[j] = e0 := (List.getElem?_eq_some_iff.1 h2).2
    have hkeys : (es.toList.set j { e0 with key := x, val := v }).map (·.key) = es.toList.map (·.key) := by
      rw [List.map_set]
      refine List.ext_getElem (by simp) fun i hi hi' => ?_
      rw [List.getElem_set]
      split
      · rename_i hij
        subst hij
        simp [hgj, h3]
      · rfl
    have who : ∀ y ∈ es.toList.set j { e0 with key := x, val := v }, y = { e0 with key := x, val := v } ∨ (y ∈ es.toList ∧ y.key ≠ x) := by
      intro y hy
      obtain ⟨i, hi, ex⟩ := List.getElem_of_mem hy
      rw [List.getElem_set] at ex
      split at ex
      · exact Or.inl ex.symm
      · rename_i hne
        have hi' : i < es.toList.length := by simpa using hi
        refine Or.inr ⟨ex ▸ List.getElem_mem hi', fun hh => hne ?_⟩
        have e1 : (es.toList.map (·.key))[j]'(by simpa using hjl) = (es.toList.map (·.key))[i]'(by simpa using hi') := by simp only [List.getElem_map]; rw [hgj, ex, h3, hh]
        exact nodup_inj hn e1
    refine ⟨setBlock w b (.map (es.modify j (fun e' => { e' with key := x, val := v })) clock), n, ?_, ⟨_, _, heap_setBlock_same hb _, by simp [hs], ?_, ?_, ?_⟩, kept_setBlock hb _, by simp [setBlock], .inr ⟨⟨e0.val, (h4 x e0.val).2 ⟨e0, List.mem_of_getElem? h2, h3, rfl⟩⟩, rfl⟩⟩
    · simp [Instr.mapUpdate, run_underlying ht, MapKept.run_getObj_map hb, K.check w false hkey, h1, hj, h3, K.stays w hkey, MapKept.run_setObj_map _ hb, Result.andThen, setBlock]
    · intro y hy
      rw [hlist] at hy
      rcases who y hy with rfl | ⟨hy', _⟩
      · exact ⟨l, hkey⟩
      · exact hks y hy'
    · rw [hlist, hkeys]; exact hn
    · intro y u
      rw [hlist]
      constructor
      · rintro (⟨rfl, rfl⟩ | ⟨hne, hr⟩)
        · exact ⟨_, List.mem_iff_getElem.2 ⟨j, by simpa using hjl, by simp; rfl⟩, rfl, rfl⟩
        · obtain ⟨a, ha, e1, e2⟩ := (h4 y u).1 hr
          obtain ⟨i, hi, rfl⟩ := List.getElem_of_mem ha
          refine ⟨es.toList[i], List.mem_iff_getElem.2 ⟨i, by simpa using hi, ?_⟩, e1, e2⟩
          rw [List.getElem_set, if_neg]
          rintro rfl
          exact hne (by rw [← e1, hgj, h3])
      · rintro ⟨a, ha, e1, e2⟩
        rcases who a ha with rfl | ⟨ha', hne⟩
        · exact .inl ⟨e1.symm, e2.symm⟩
        · exact .inr ⟨fun hh => hne (e1.trans hh), (h4 y u).2 ⟨a, ha', e1, e2⟩⟩

theorem MapIs.drop (h : MapIs k w b R n) (K : Keyed Try.prog k) (ht : Try.prog.underlying t = some (.map k e)) {x : Value} (hx : Keyish k x) (ty : TypeId) :
    ∃ w' n', (Builtin.delete_ #[t, k] ty #[.map (some b), x]).run Try.prog w = .ok (.tuple #[]) w' ∧ MapIs k w' b (fun y u => y ≠ x ∧ R y u) n' ∧ Kept (fun j => j = b) w w' ∧ w'.heap.size = w.heap.size := by
  obtain ⟨es, clock, hb, hs, hks, hn, h4⟩ := h
  obtain ⟨l, hkey⟩ := hx
  rcases K.find w hkey es.toList hks with ⟨h1, h2⟩ | ⟨j, e0, h1, h2, h3⟩
  · refine ⟨setBlock w b (.map es clock), n, ?_, ⟨_, _, heap_setBlock_same hb _, hs, hks, hn, ?_⟩, kept_setBlock hb _, by simp [setBlock]⟩
    · simp [Builtin.delete_, run_underlying ht, MapKept.run_getObj_map hb, K.check w _ hkey, h1, MapKept.run_setObj_map _ hb, Result.andThen, setBlock]
    · intro y u
      rw [← h4 y u]
      refine ⟨fun hh => hh.2, fun hh => ⟨?_, hh⟩⟩
      rintro rfl
      obtain ⟨a, ha, e1, _⟩ := (h4 y u).1 hh
      exact h2 a ha e1
  · have hjl : j < es.toList.length := (List.getElem?_eq_some_iff.1 h2).1
    have hgj : es.toList[j] = e0 := (List.getElem?_eq_some_iff.1 h2).2
    have hjs : j < es.size := by simpa using hjl
    have hsub : (es.eraseIdxIfInBounds j).toList = es.toList.eraseIdx j := by
      unfold Array.eraseIdxIfInBounds
      rw [dif_pos hjs]
      simp
    refine ⟨setBlock w b (.map (es.eraseIdxIfInBounds j) clock), (es.eraseIdxIfInBounds j).size, ?_, ⟨_, _, heap_setBlock_same hb _, rfl, ?_, ?_, ?_⟩, kept_setBlock hb _, by simp [setBlock]⟩
    · simp [Builtin.delete_, run_underlying ht, MapKept.run_getObj_map hb, K.check w _ hkey, h1, MapKept.run_setObj_map _ hb, Result.andThen, setBlock]
    · intro y hy
      rw [hsub] at hy
      exact hks y ((List.eraseIdx_sublist _ _).subset hy)
    · rw [hsub]
      exact hn.sublist ((List.eraseIdx_sublist _ _).map _)
    · intro y u
      rw [hsub]
      constructor
      · rintro ⟨hne, hr⟩
        obtain ⟨a, ha, e1, e2⟩ := (h4 y u).1 hr
        obtain ⟨i, hi, rfl⟩ := List.getElem_of_mem ha
        refine ⟨es.toList[i], List.mem_eraseIdx_iff_getElem?.2 ⟨i, ?_, List.getElem?_eq_getElem hi⟩, e1, e2⟩
        rintro rfl
        exact hne (by rw [← e1, hgj, h3])
      · rintro ⟨a, ha, e1, e2⟩
        obtain ⟨i, hne, hi⟩ := List.mem_eraseIdx_iff_getElem?.1 ha
        have ham := List.mem_of_getElem? hi
        refine ⟨?_, (h4 y u).2 ⟨a, ham, e1, e2⟩⟩
        rintro rfl
        obtain ⟨hil, hia⟩ := List.getElem?_eq_some_iff.1 hi
        have e3 : (es.toList.map (·.key))[i]'(by simpa using hil) = (es.toList.map (·.key))[j]'(by simpa using hjl) := by simp only [List.getElem_map]; rw [hgj, hia, h3, e1]
        exact hne (nodup_inj hn e3)

theorem MapIs.cloned (h : MapIs k w b R n) : ∃ es clock, w.heap[b]? = some (.map es clock) ∧ MapIs k (w.alloc (.map es clock)) w.heap.size R n := by
  obtain ⟨es, clock, hb, r⟩ := h
  exact ⟨es, clock, hb, es, clock, (MapKept.heap_alloc w _).1, r⟩
end

theorem keyS {s : ByteArray} (hs : s.size ≤ maxLen) : Keyish 9 (.string s) := ⟨_, WideMaps.keyOf_string_mk Try.underlying9 hs⟩

/-- the key of an object -/
def kv (a b c : ByteArray) : Value := .agg #[.string a, .string b, .string c]
theorem keyT {a b c : ByteArray} (ha : a.size ≤ maxLen) (hb : b.size ≤ maxLen) (hc : c.size ≤ maxLen) : Keyish 72 (kv a b c) := by
  have h9 : Try.prog.cellsOf 9 = 1 := by kernel_rfl
  have h72 : Try.prog.cellsOf 72 = 3 := by kernel_rfl
  have hsz : ∃ m, Try.prog.types.size + 1 = m + 2 := ⟨Try.prog.types.size - 1, by have : 1 ≤ Try.prog.types.size := of_decide_eq_true (by kernel_rfl); omega⟩
  obtain ⟨m, hm⟩ := hsz
  unfold Keyish keyOf kv
  rw [show Try.prog.underlying 72 = _ from Try.underlying72, hm]
  simp only [show Try.prog.keyType 72 = true from by kernel_rfl, Bool.true_and]
  simp [Value.formed, Try.underlying72, h72, Value.cells, Program.keyLits, Try.underlying9, h9, ha, hb, hc]
end Go.Proofs.Qxb6613136a
