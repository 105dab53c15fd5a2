import Derived.WalkKit
import Derived.Maps.RangeWalk
import Derived.Maps.OwnSet
import Derived.Deep.QuietTactic
namespace Go.Proofs.Qxb6626248aDoor
open Go.RowKit Go.MapKept
set_option linter.unusedVariables false
set_option linter.unusedSimpArgs false
open Go.ChangeMaps (setBlock)

/-! maps keyed by strings, as lists of entries -/
abbrev Ents := List (ByteArray × Value)
def keys (f : Ents) : List ByteArray := f.map (·.1)
def look : Ents → ByteArray → Option Value
  | [], _ => none
  | p :: r, s => if p.1 = s then some p.2 else look r s
def put : Ents → ByteArray → Value → Ents
  | [], s, v => [(s, v)]
  | p :: r, s, v => if p.1 = s then (s, v) :: r else p :: put r s v

theorem look_put (f : Ents) (s : ByteArray) (v : Value) (t : ByteArray) : look (put f s v) t = if s = t then some v else look f t := by
  induction f with
  | nil => simp [put, look]
  | cons p r ih =>
    by_cases h : p.1 = s
    · simp only [put, h, if_true, look]
      by_cases h2 : s = t
      · simp [h2]
      · simp [h2]
    · simp only [put, h, if_false, look]
      by_cases h2 : p.1 = t
      · have : s ≠ t := fun e => h (h2.trans e.symm)
        simp [h2, this]
      · simp [h2, ih]

theorem look_none {f : Ents} {s : ByteArray} : look f s = none ↔ s ∉ keys f := by
  induction f with
  | nil => simp [look, keys]
  | cons p r ih =>
    by_cases h : p.1 = s
    · simp [look, keys, h]
    · have h' : ¬ s = p.1 := fun e => h e.symm
      simp only [look, h, if_false, ih]
      simp [keys, h']

theorem look_isSome {f : Ents} {s : ByteArray} : (∃ v, look f s = some v) ↔ s ∈ keys f := by
  constructor
  · rintro ⟨v, h⟩
    by_cases h2 : s ∈ keys f
    · exact h2
    · rw [look_none.2 h2] at h; cases h
  · intro h
    cases h2 : look f s with
    | none => exact absurd h (look_none.1 h2)
    | some v => exact ⟨v, rfl⟩

theorem look_mem {f : Ents} (hn : (keys f).Nodup) {s : ByteArray} {v : Value} : look f s = some v ↔ (s, v) ∈ f := by
  induction f with
  | nil => simp [look]
  | cons p r ih =>
    simp only [keys, List.map_cons, List.nodup_cons] at hn
    have ih := ih hn.2
    obtain ⟨a, u⟩ := p
    by_cases h : a = s
    · subst h
      simp only [look, if_true, Option.some.injEq, List.mem_cons, Prod.mk.injEq, true_and]
      constructor
      · intro e; exact .inl e.symm
      · rintro (e | e)
        · exact e.symm
        · exact absurd (List.mem_map_of_mem (f := (·.1)) e) hn.1
    · simp only [look, h, if_false, ih, List.mem_cons, Prod.mk.injEq]
      constructor
      · exact .inr
      · rintro (⟨e, _⟩ | e)
        · exact absurd e.symm h
        · exact e

theorem keys_put_mem (f : Ents) (s : ByteArray) (v : Value) (h : s ∈ keys f) : keys (put f s v) = keys f := by
  induction f with
  | nil => simp [keys] at h
  | cons p r ih =>
    by_cases h2 : p.1 = s
    · simp [put, h2, keys]
    · have : s ∈ keys r := by
        simp only [keys, List.map_cons, List.mem_cons] at h
        rcases h with h | h
        · exact absurd h.symm h2
        · exact h
      have := ih this
      simp only [put, h2, if_false, keys, List.map_cons] at this ⊢
      rw [this]
theorem put_new (f : Ents) (s : ByteArray) (v : Value) (h : s ∉ keys f) : put f s v = f ++ [(s, v)] := by
  induction f with
  | nil => rfl
  | cons p r ih =>
    simp only [keys, List.map_cons, List.mem_cons, not_or] at h
    have h2 : ¬ p.1 = s := fun e => h.1 e.symm
    simp only [put, h2, if_false, List.cons_append]
    rw [ih h.2]
theorem nodup_put {f : Ents} (hn : (keys f).Nodup) (s : ByteArray) (v : Value) : (keys (put f s v)).Nodup := by
  by_cases h : s ∈ keys f
  · rw [keys_put_mem f s v h]; exact hn
  · rw [put_new f s v h]
    simp only [keys, List.map_append, List.map_cons, List.map_nil]
    rw [List.nodup_append]
    exact ⟨hn, by simp, by intro a ha b hb; simp at hb; subst hb; intro e; subst e; exact h ha⟩

theorem put_set {f : Ents} (hn : (keys f).Nodup) {s : ByteArray} {v u : Value} {j : Nat} (h : f[j]? = some (s, u)) : put f s v = f.set j (s, v) := by
  induction f generalizing j with
  | nil => simp at h
  | cons p r ih =>
    simp only [keys, List.map_cons, List.nodup_cons] at hn
    cases j with
    | zero =>
      simp at h
      subst h
      simp [put]
    | succ j =>
      simp at h
      have hne : ¬ p.1 = s := fun e => hn.1 (by rw [e]; exact List.mem_map_of_mem (f := (·.1)) (List.mem_of_getElem? h))
      simp only [put, hne, if_false, List.set_cons_succ]
      rw [ih hn.2 h]

/-! what a call may have turned -/
/-- all blocks of w but those in P are as they were -/
structure Keeps (P : Nat → Prop) (w w' : World) : Prop where
  os : w'.os = w.os
  tape : w'.tape = w.tape
  output : w'.output = w.output
  size : w.heap.size ≤ w'.heap.size
  block : ∀ k, k < w.heap.size → ¬ P k → w'.heap[k]? = w.heap[k]?

theorem Keeps.refl (P : Nat → Prop) (w : World) : Keeps P w w := ⟨rfl, rfl, rfl, Nat.le_refl _, fun _ _ _ => rfl⟩
theorem Keeps.trans {P : Nat → Prop} {a b c : World} (h : Keeps P a b) (k : Keeps P b c) : Keeps P a c :=
  ⟨k.os.trans h.os, k.tape.trans h.tape, k.output.trans h.output, Nat.le_trans h.size k.size, fun i hi hp => (k.block i (Nat.lt_of_lt_of_le hi h.size) hp).trans (h.block i hi hp)⟩
/-- .. where the second step may turn blocks that the first world did not have -/
theorem Keeps.andThen {P Q : Nat → Prop} {a b c : World} (h : Keeps P a b) (k : Keeps Q b c) (hPQ : ∀ i, i < a.heap.size → Q i → P i) : Keeps P a c :=
  ⟨k.os.trans h.os, k.tape.trans h.tape, k.output.trans h.output, Nat.le_trans h.size k.size, fun i hi hp => (k.block i (Nat.lt_of_lt_of_le hi h.size) (fun hq => hp (hPQ i hi hq))).trans (h.block i hi hp)⟩
theorem Keeps.drewN (P : Nat → Prop) (w : World) (n : Nat) : Keeps P w (w.drewN n) := by
  have e : (w.drewN n).heap = w.heap := by simp [World.drewN]
  exact ⟨rfl, rfl, rfl, by rw [e]; exact Nat.le_refl _, fun k _ _ => by rw [e]⟩
theorem Keeps.alloc (P : Nat → Prop) (w : World) (o : Obj) : Keeps P w (w.alloc o) :=
  ⟨rfl, rfl, rfl, by simp, fun k hk _ => Below.heap_alloc w o k hk⟩
theorem Keeps.setCell {P : Nat → Prop} (w : World) (a : Addr) (u : Value) (h : P a.block) : Keeps P w (w.setCell a u) :=
  ⟨rfl, rfl, rfl, by simp [World.setCell], fun k _ hk => Below.heap_setCell _ _ _ _ (fun e => hk (e ▸ h))⟩
theorem Keeps.grown {P : Nat → Prop} {w w' : World} {row : Option Nat} (hg : w.grownBy w' row) (h : ∀ k, row = some k → P k) : Keeps P w w' :=
  ⟨hg.os, hg.tape, hg.output, hg.size, fun k hk hp => hg.block k hk (fun e => hp (h k e.symm))⟩
theorem Keeps.below {P : Nat → Prop} {w w' : World} (h : Keeps P w w') {B : Nat} (hB : B ≤ w.heap.size) (hP : ∀ k, P k → B ≤ k) : Below B w w' :=
  ⟨h.os, h.tape, h.output, h.size, fun k hk => h.block k (by omega) (fun hp => by have := hP k hp; omega)⟩
theorem Keeps.of_below {P : Nat → Prop} {w w' : World} (h : Below w.heap.size w w') : Keeps P w w' :=
  ⟨h.os, h.tape, h.output, h.size, fun k hk _ => h.block k hk⟩

theorem Keeps.set (w : World) (b : Nat) (o : Obj) : Keeps (fun k => k = b) w (setBlock w b o) :=
  ⟨rfl, rfl, rfl, by simp [setBlock], fun k _ hk => by simp [setBlock, Array.getElem?_setIfInBounds, show b ≠ k from fun e => hk e.symm]⟩
theorem Keeps.mono {P Q : Nat → Prop} {w w' : World} (h : Keeps P w w') (hPQ : ∀ k, P k → Q k) : Keeps Q w w' :=
  ⟨h.os, h.tape, h.output, h.size, fun k hk hq => h.block k hk (fun hp => hq (hPQ k hp))⟩
theorem Keeps.drew (P : Nat → Prop) (w : World) : Keeps P w w.drew := ⟨rfl, rfl, rfl, Nat.le_refl _, fun _ _ _ => rfl⟩
theorem Keeps.cell {P : Nat → Prop} {w w' : World} (h : Keeps P w w') {a : Addr} {v : Value} (hc : w.cell? a = some v) (hp : ¬ P a.block) : w'.cell? a = some v :=
  (World.cell?_of_block (h.block a.block (World.block_lt_of_cell? w a hc) hp)).trans hc

/-! such a map in memory -/
def SMap (w : World) (b : Nat) (f : Ents) : Prop :=
  (keys f).Nodup ∧ ∃ es clock, w.heap[b]? = some (.map es clock) ∧ es.toList.map (fun e => (e.key, e.val)) = f.map (fun p => (Value.string p.1, p.2)) ∧ (∀ x ∈ es.toList, x.born < clock) ∧ (es.toList.map (·.born)).Nodup

theorem SMap.lt {w : World} {b : Nat} {f : Ents} (h : SMap w b f) : b < w.heap.size := by
  obtain ⟨_, es, clock, hb, _⟩ := h
  exact (Array.getElem?_eq_some_iff.1 hb).1
theorem SMap.same {w w' : World} {b : Nat} {f : Ents} (h : SMap w b f) (hb : w'.heap[b]? = w.heap[b]?) : SMap w' b f := by
  obtain ⟨hn, es, clock, h1, r⟩ := h
  exact ⟨hn, es, clock, hb.trans h1, r⟩
theorem SMap.made (w : World) : SMap (w.alloc (.map #[] 0)) w.heap.size [] :=
  ⟨by simp [keys], #[], 0, heap_alloc_new w _, by simp, by simp, by simp⟩

theorem ent_key {f : Ents} {es : Array MapEntry} (he : es.toList.map (fun e => (e.key, e.val)) = f.map (fun p => (Value.string p.1, p.2))) : ∀ x ∈ es.toList, IsKey .string x.key := by
  intro x hx
  have h1 : (x.key, x.val) ∈ f.map (fun p => (Value.string p.1, p.2)) := by rw [← he]; exact List.mem_map_of_mem (f := fun e : MapEntry => (e.key, e.val)) hx
  rw [List.mem_map] at h1
  obtain ⟨p, _, hp⟩ := h1
  have h2 : Value.string p.1 = x.key := congrArg Prod.fst hp
  rw [← h2]
  trivial
theorem ent_at {f : Ents} {es : Array MapEntry} (he : es.toList.map (fun e => (e.key, e.val)) = f.map (fun p => (Value.string p.1, p.2))) {j : Nat} {e : MapEntry} (h : es.toList[j]? = some e) : ∃ s, e.key = .string s ∧ f[j]? = some (s, e.val) := by
  have h1 : (es.toList.map (fun e => (e.key, e.val)))[j]? = some (e.key, e.val) := by rw [List.getElem?_map, h]; rfl
  rw [he, List.getElem?_map] at h1
  cases hf : f[j]? with
  | none => rw [hf] at h1; simp at h1
  | some p =>
    rw [hf] at h1
    simp only [Option.map_some, Option.some.injEq, Prod.mk.injEq] at h1
    obtain ⟨a, v⟩ := p
    exact ⟨a, h1.1.symm, by rw [← h1.2]⟩

/-- the find of a key -/
theorem find_spec {f : Ents} {es : Array MapEntry} (hn : (keys f).Nodup) (he : es.toList.map (fun e => (e.key, e.val)) = f.map (fun p => (Value.string p.1, p.2))) (s : ByteArray) :
    (Instr.findNow .string (.string s) es.toList 0 = some none ∧ look f s = none) ∨ ∃ j e, Instr.findNow .string (.string s) es.toList 0 = some (some (j, e.val)) ∧ es.toList[j]? = some e ∧ e.key = .string s ∧ f[j]? = some (s, e.val) ∧ look f s = some e.val := by
  rcases findNow_spec (d := .string) (k := .string s) trivial es.toList 0 (ent_key he) with ⟨h1, h2⟩ | ⟨j, e, h1, h2, h3⟩
  · refine .inl ⟨h1, look_none.2 fun hs => ?_⟩
    simp only [keys, List.mem_map] at hs
    obtain ⟨p, hp, rfl⟩ := hs
    have : (Value.string p.1, p.2) ∈ es.toList.map (fun e => (e.key, e.val)) := by rw [he]; exact List.mem_map_of_mem (f := fun p : ByteArray × Value => (Value.string p.1, p.2)) hp
    rw [List.mem_map] at this
    obtain ⟨x, hx, hxe⟩ := this
    exact h2 x hx (congrArg Prod.fst hxe)
  · obtain ⟨s', e1, e2⟩ := ent_at he h2
    rw [e1] at h3
    cases h3
    exact .inr ⟨j, e, by simpa using h1, h2, e1, e2, (look_mem hn).2 (List.mem_of_getElem? e2)⟩

section
variable {P : Program} {w : World} {t k e : TypeId}

/-- m[s] and m[s], ok -/
theorem SMap.lookup {b : Nat} {f : Ents} (h : SMap w b f) (ht : P.underlying t = some (.map k e)) (hk : P.underlying k = some .string) (z : Value) (hz : (zeroValue e).run P w = .ok z w) (s : ByteArray) (c : Bool) :
    (Instr.lookup t (.map (some b)) (.string s) c).run P w = .ok (if c then .tuple #[(look f s).getD z, .bool (look f s).isSome] else (look f s).getD z) w := by
  obtain ⟨hn, es, clock, hb, he, _, _⟩ := h
  rcases find_spec hn he s with ⟨h1, h2⟩ | ⟨j, x, h1, _, _, _, h2⟩
  · simp [Instr.lookup, run_underlying ht, MapKept.run_getObj_map hb, run_checkKey hk (show IsKey .string (.string s) from trivial), run_findKey hk h1, hz, h2, Result.andThen]
  · simp [Instr.lookup, run_underlying ht, MapKept.run_getObj_map hb, run_checkKey hk (show IsKey .string (.string s) from trivial), run_findKey hk h1, h2, Result.andThen]

theorem nil_lookup (ht : P.underlying t = some (.map k e)) (hk : P.underlying k = some .string) (z : Value) (hz : (zeroValue e).run P w = .ok z w) (s : ByteArray) (c : Bool) :
    (Instr.lookup t (.map none) (.string s) c).run P w = .ok (if c then .tuple #[z, .bool false] else z) w := by
  simp [Instr.lookup, run_underlying ht, run_checkKey hk (show IsKey .string (.string s) from trivial), run_findKey hk (show Instr.findNow .string (.string s) [] 0 = some none from rfl), hz, Result.andThen]

/-- m[s] = v -/
theorem SMap.update {b : Nat} {f : Ents} (h : SMap w b f) (ht : P.underlying t = some (.map k e)) (hk : P.underlying k = some .string) (s : ByteArray) (v : Value) :
    ∃ o, (Instr.mapUpdate t (.map (some b)) (.string s) v).run P w = .ok () (setBlock w b o) ∧ SMap (setBlock w b o) b (put f s v) := by
  obtain ⟨hn, es, clock, hb, he, hbn, hbd⟩ := h
  have hset : ∀ o, (setBlock w b o).heap[b]? = some o := fun o => by simp [setBlock, (Array.getElem?_eq_some_iff.1 hb).1]
  rcases find_spec hn he s with ⟨h1, h2⟩ | ⟨j, x, h1, h3, h4, h5, h2⟩
  · refine ⟨.map (es.push { key := .string s, val := v, born := clock }) (clock + 1), ?_, nodup_put hn s v, _, _, hset _, ?_, ?_, ?_⟩
    · simp [Instr.mapUpdate, run_underlying ht, MapKept.run_getObj_map hb, run_checkKey hk (show IsKey .string (.string s) from trivial), run_findKey hk h1, run_setObj_map _ hb, Result.andThen, setBlock]
    · rw [put_new f s v (look_none.1 h2)]
      simp [he]
    · intro y hy
      simp at hy
      rcases hy with hy | rfl
      · have := hbn y (by simpa using hy); omega
      · simp
    · simp only [Array.toList_push, List.map_append, List.map_cons, List.map_nil]
      rw [List.nodup_append]
      refine ⟨hbd, by simp, ?_⟩
      intro a ha c hc
      simp at ha hc
      subst hc
      obtain ⟨y, hy, rfl⟩ := ha
      have := hbn y (by simpa using hy)
      omega
  · have hj : j < es.size := by
      have := (List.getElem?_eq_some_iff.1 h3).1
      simpa using this
    have hx : es[j]? = some x := by rw [← Array.getElem?_toList]; exact h3
    refine ⟨.map (es.modify j fun y => { y with key := .string s, val := v }) clock, ?_, nodup_put hn s v, _, _, hset _, ?_, ?_, ?_⟩
    · simp [Instr.mapUpdate, run_underlying ht, MapKept.run_getObj_map hb, run_checkKey hk (show IsKey .string (.string s) from trivial), run_findKey hk h1, run_setObj_map _ hb, hx, h4, run_keyThatStays (d := .string) (k := .string s) trivial, Result.andThen, setBlock]
    · rw [put_set hn h5]
      apply List.ext_getElem?
      intro i
      have hi := congrArg (fun l => l[i]?) he
      simp only [List.getElem?_map] at hi
      simp only [List.getElem?_map, Array.getElem?_toList, Array.getElem?_modify, List.getElem?_set]
      rw [Array.getElem?_toList] at hi
      by_cases hij : j = i
      · subst hij
        have hjf : j < f.length := (List.getElem?_eq_some_iff.1 h5).1
        simp [hx, hjf]
      · simp [hij, hi]
    · intro y hy
      have hy' : ∃ i : Nat, (es.modify j fun y => { y with key := .string s, val := v })[i]? = some y := by
        obtain ⟨i, hi⟩ := List.mem_iff_getElem?.1 hy
        exact ⟨i, by rw [← Array.getElem?_toList]; exact hi⟩
      obtain ⟨i, hi⟩ := hy'
      rw [Array.getElem?_modify] at hi
      by_cases hij : j = i
      · subst hij
        simp [hx] at hi
        rw [← hi]
        exact hbn x (List.mem_of_getElem? h3)
      · simp [hij] at hi
        exact hbn y (List.mem_of_getElem? (by rw [Array.getElem?_toList]; exact hi))
    · have eb : (es.modify j fun y => { y with key := .string s, val := v }).toList.map (·.born) = es.toList.map (·.born) := by
        apply List.ext_getElem?
        intro i
        simp only [List.getElem?_map, Array.getElem?_toList, Array.getElem?_modify]
        by_cases hij : j = i
        · subst hij; simp [hx]
        · simp [hij]
      rw [eb]
      exact hbd

theorem SMap.len {b : Nat} {f : Ents} (h : SMap w b f) (ht : P.underlying t = some (.map k e)) (ty : TypeId) :
    (Builtin.len_ #[t] ty #[.map (some b)]).run P w = .ok (.int .i64 f.length) w := by
  obtain ⟨hn, es, clock, hb, he, _, _⟩ := h
  have hl : es.size = f.length := by
    have := congrArg List.length he
    simpa using this
  simp [Builtin.len_, Builtin.lenOf, run_underlying ht, MapKept.run_getObj_map hb, Result.andThen, hl, goInt]
end

/-- a map's value: nil, or a block -/
def MapV (w : World) (v : Value) (f : Ents) : Prop := (v = .map none ∧ f = []) ∨ ∃ b, v = .map (some b) ∧ SMap w b f

theorem MapV.same {w w' : World} {v : Value} {f : Ents} (h : MapV w v f) (hb : ∀ k, k < w.heap.size → v = .map (some k) → w'.heap[k]? = w.heap[k]?) : MapV w' v f := by
  rcases h with h | ⟨b, rfl, h⟩
  · exact .inl h
  · exact .inr ⟨b, rfl, h.same (hb b h.lt rfl)⟩
theorem MapV.below {w w' : World} {v : Value} {f : Ents} (h : MapV w v f) (hb : Below w.heap.size w w') : MapV w' v f := h.same (fun k hk _ => hb.block k hk)
theorem MapV.nodup {w : World} {v : Value} {f : Ents} (h : MapV w v f) : (keys f).Nodup := by
  rcases h with ⟨_, rfl⟩ | ⟨b, _, h⟩
  · simp [keys]
  · exact h.1

section
variable {P : Program} {t k e : TypeId}
theorem MapV.lookup {w : World} {v : Value} {f : Ents} (h : MapV w v f) (ht : P.underlying t = some (.map k e)) (hk : P.underlying k = some .string) (z : Value) (hz : (zeroValue e).run P w = .ok z w) (s : ByteArray) (c : Bool) :
    (Instr.lookup t v (.string s) c).run P w = .ok (if c then .tuple #[(look f s).getD z, .bool (look f s).isSome] else (look f s).getD z) w := by
  rcases h with ⟨rfl, rfl⟩ | ⟨b, rfl, h⟩
  · rw [nil_lookup ht hk z hz s c]; rfl
  · exact h.lookup ht hk z hz s c
theorem MapV.len {w : World} {v : Value} {f : Ents} (h : MapV w v f) (ht : P.underlying t = some (.map k e)) (ty : TypeId) :
    (Builtin.len_ #[t] ty #[v]).run P w = .ok (.int .i64 f.length) w := by
  rcases h with ⟨rfl, rfl⟩ | ⟨b, rfl, h⟩
  · rw [Maps.len_nil (k := k) ht]; rfl
  · exact h.len ht ty

/-! ranging -/
/-- the iterator in block r over the map v: rem is still to come -/
def Iter (w : World) (r : Nat) (v : Value) (f rem : Ents) : Prop :=
  (v = .map none ∧ f = [] ∧ rem = [] ∧ ∃ a s c, w.heap[r]? = some (.mapIter none a s c)) ∨
  ∃ b es clock seen c0, v = .map (some b) ∧ (keys f).Nodup ∧ w.heap[b]? = some (.map es clock) ∧ es.toList.map (fun e => (e.key, e.val)) = f.map (fun p => (Value.string p.1, p.2)) ∧ (∀ x ∈ es.toList, x.born < clock) ∧ (es.toList.map (·.born)).Nodup ∧
    w.heap[r]? = some (.mapIter (some b) clock seen c0) ∧ clock ≤ c0 ∧ (leftOf es seen).toList.map (fun e => (e.key, e.val)) = rem.map (fun p => (Value.string p.1, p.2))

theorem Iter.map {w : World} {r : Nat} {v : Value} {f rem : Ents} (h : Iter w r v f rem) : MapV w v f := by
  rcases h with ⟨h1, h2, _⟩ | ⟨b, es, clock, seen, c0, hv, hn, hb, he, h1, h2, _⟩
  · exact .inl ⟨h1, h2⟩
  · exact .inr ⟨b, hv, hn, es, clock, hb, he, h1, h2⟩
theorem Iter.lt {w : World} {r : Nat} {v : Value} {f rem : Ents} (h : Iter w r v f rem) : r < w.heap.size := by
  rcases h with ⟨_, _, _, a, s, c, h⟩ | ⟨b, es, clock, seen, c0, hv, hn, hb, he, h1, h2, h, _⟩
  · exact (Array.getElem?_eq_some_iff.1 h).1
  · exact (Array.getElem?_eq_some_iff.1 h).1
theorem Iter.below {w w' : World} {r : Nat} {v : Value} {f rem : Ents} (h : Iter w r v f rem) (hw : Below w.heap.size w w') : Iter w' r v f rem := by
  have hl := h.lt
  rcases h with ⟨h1, h2, h3, a, s, c, h⟩ | ⟨b, es, clock, seen, c0, hv, hn, hb, he, h1, h2, h, r'⟩
  · exact .inl ⟨h1, h2, h3, a, s, c, (hw.block r hl).trans h⟩
  · exact .inr ⟨b, es, clock, seen, c0, hv, hn, (hw.block b (Array.getElem?_eq_some_iff.1 hb).1).trans hb, he, h1, h2, (hw.block r hl).trans h, r'⟩

theorem MapV.range {w : World} {v : Value} {f : Ents} (h : MapV w v f) (ht : P.underlying t = some (.map k e)) :
    ∃ o, (Instr.range t v).run P w = .ok (.pointer (some ⟨w.heap.size, 0, none⟩)) (w.alloc o) ∧ Iter (w.alloc o) w.heap.size v f f := by
  rcases h with ⟨rfl, rfl⟩ | ⟨b, rfl, hn, es, clock, hb, he, h1, h2⟩
  · exact ⟨_, run_range_nilMap w t k e ht, .inl ⟨rfl, rfl, rfl, _, _, _, heap_alloc_new w _⟩⟩
  · refine ⟨_, run_range_map w t k e b es clock ht hb, .inr ⟨b, es, clock, #[], clock, rfl, hn, ?_, he, h1, h2, heap_alloc_new w _, Nat.le_refl _, ?_⟩⟩
    · rw [Below.heap_alloc _ _ _ (Array.getElem?_eq_some_iff.1 hb).1]; exact hb
    · rw [← he]; simp only [leftOf, Array.toList_filter]; rw [List.filter_eq_self.2 (by simp)]

theorem left_push (es : Array MapEntry) (seen : Array Nat) (e : MapEntry) (hbd : (es.toList.map (·.born)).Nodup) (he : e ∈ (leftOf es seen).toList) :
    (leftOf es seen).toList.Perm (e :: (leftOf es (seen.push e.born)).toList) := by
  unfold leftOf at *
  rw [Array.toList_filter] at *
  rw [Array.toList_filter]
  have e2 : es.toList.filter (fun x => !(seen.push e.born).contains x.born) = (es.toList.filter (fun x => !seen.contains x.born)).filter (fun x => !(x.born == e.born)) := by
    rw [List.filter_filter]
    apply List.filter_congr
    intro x _
    by_cases h1 : x.born ∈ seen <;> by_cases h2 : x.born = e.born <;> simp [h1, h2]
  rw [e2]
  have hbd2 : ((es.toList.filter (fun x => !seen.contains x.born)).map (·.born)).Nodup := hbd.sublist ((List.filter_sublist).map _)
  generalize es.toList.filter (fun x => !seen.contains x.born) = L at he hbd2 ⊢
  induction L with
  | nil => simp at he
  | cons x r ih =>
    simp only [List.map_cons, List.nodup_cons] at hbd2
    by_cases hx : x.born = e.born
    · have hxe : x = e := by
        rcases List.mem_cons.1 he with h | h
        · exact h.symm
        · exact absurd (by rw [hx]; exact List.mem_map_of_mem (f := (·.born)) h) hbd2.1
      subst hxe
      have : (x :: r).filter (fun y => !(y.born == x.born)) = r := by
        rw [List.filter_cons]
        simp only [beq_self_eq_true, Bool.not_true, Bool.false_eq_true, if_false]
        rw [List.filter_eq_self]
        intro y hy
        have : y.born ≠ x.born := fun e3 => hbd2.1 (by rw [← e3]; exact List.mem_map_of_mem (f := (·.born)) hy)
        simp [this]
      rw [this]
    · have he2 : e ∈ r := by
        rcases List.mem_cons.1 he with h | h
        · subst h; exact absurd rfl hx
        · exact h
      have : (x :: r).filter (fun y => !(y.born == e.born)) = x :: r.filter (fun y => !(y.born == e.born)) := by
        rw [List.filter_cons]; simp [hx]
      rw [this]
      exact ((ih he2 hbd2.2).cons x).trans (List.Perm.swap e x _)

theorem strings_of {L : List MapEntry} {f : Ents} (h : ∀ x ∈ L, ∃ s, x.key = .string s ∧ (s, x.val) ∈ f) : ∃ rem : Ents, L.map (fun e => (e.key, e.val)) = rem.map (fun p => (Value.string p.1, p.2)) := by
  induction L with
  | nil => exact ⟨[], rfl⟩
  | cons x r ih =>
    obtain ⟨rem, hr⟩ := ih (fun y hy => h y (List.mem_cons_of_mem _ hy))
    obtain ⟨s, hs, _⟩ := h x (by simp)
    exact ⟨(s, x.val) :: rem, by simp [hs, hr]⟩

theorem strs_inj {a b : Ents} (h : a.map (fun p => (Value.string p.1, p.2)) = b.map (fun p => (Value.string p.1, p.2))) : a = b := by
  refine List.map_inj_right ?_ |>.1 h
  rintro ⟨x, u⟩ ⟨y, v⟩ hxy
  simp only [Prod.mk.injEq, Value.string.injEq] at hxy
  exact Prod.ext hxy.1 hxy.2

theorem perm_strs {a : List (Value × Value)} {p : Value × Value} {rem rem' : Ents} (h : (rem.map (fun p => (Value.string p.1, p.2))).Perm (p :: rem'.map (fun p => (Value.string p.1, p.2)))) : ∃ s v, p = (.string s, v) ∧ rem.Perm ((s, v) :: rem') := by
  have hp : p ∈ rem.map (fun p => (Value.string p.1, p.2)) := h.mem_iff.2 (by simp)
  rw [List.mem_map] at hp
  obtain ⟨⟨s, v⟩, _, rfl⟩ := hp
  refine ⟨s, v, rfl, ?_⟩
  have key : ∀ q : Ents, (q.map (fun p => (Value.string p.1, p.2))).map (fun z => ((match z.1 with | .string t => t | _ => ByteArray.empty), z.2)) = q := by
    intro q
    rw [List.map_map]
    conv => rhs; rw [← List.map_id q]
    apply List.map_congr_left
    rintro ⟨x, u⟩ _
    rfl
  have h2 := h.map (fun z => ((match z.1 with | .string t => t | _ => ByteArray.empty), z.2))
  rw [List.map_cons, key, key] at h2
  exact h2

theorem Iter.next {w : World} {r : Nat} {v : Value} {f rem : Ents} (h : Iter w r v f rem) (ty : TypeId) :
    (rem = [] ∧ (Instr.next (.pointer (some ⟨r, 0, none⟩)) false ty).run P w = .ok (.tuple #[.bool false]) w) ∨
    ∃ s u rem' w', rem.Perm ((s, u) :: rem') ∧ (Instr.next (.pointer (some ⟨r, 0, none⟩)) false ty).run P w = .ok (.tuple #[.bool true, .string s, u]) w' ∧ Iter w' r v f rem' ∧ Keeps (fun k => k = r) w w' ∧
      (∀ w2, Below w'.heap.size w' w2 → (Instr.entry (.pointer (some ⟨r, 0, none⟩))).run P w2 = .ok (.tuple #[.string s, u]) w2) := by
  rcases h with ⟨rfl, rfl, rfl, a, s, c, hr⟩ | ⟨b, es, clock, seen, c0, rfl, hn, hb, he, h1, h2, hr, hc, hrem⟩
  · left
    refine ⟨rfl, ?_⟩
    simp only [Instr.next, getObj, Sem.run_bind, Sem.run, hr, Result.andThen]
    rfl
  · rcases run_next_at (P := P) w ty r b clock c0 seen es clock hr hb h1 hc with ⟨h0, hrun⟩ | ⟨x, hx, w1, hw1, hrun⟩
    · left
      refine ⟨?_, hrun⟩
      have : (leftOf es seen).toList = [] := List.eq_nil_of_length_eq_zero (by simpa using h0)
      rw [this] at hrem
      simpa using hrem.symm
    · right
      have hxes : x ∈ es.toList := by
        unfold leftOf at hx
        rw [Array.toList_filter] at hx
        exact (List.mem_filter.1 hx).1
      have hperm := left_push es seen x h2 hx
      obtain ⟨rem', hrem'⟩ : ∃ rem' : Ents, (leftOf es (seen.push x.born)).toList.map (fun e => (e.key, e.val)) = rem'.map (fun p => (Value.string p.1, p.2)) := by
        refine strings_of (f := f) (fun y hy => ?_)
        have hy2 : y ∈ es.toList := by
          unfold leftOf at hy
          rw [Array.toList_filter] at hy
          exact (List.mem_filter.1 hy).1
        obtain ⟨i, hi⟩ := List.mem_iff_getElem?.1 hy2
        obtain ⟨s, e1, e2⟩ := ent_at he hi
        exact ⟨s, e1, List.mem_of_getElem? e2⟩
      have hp2 := hperm.map (fun e : MapEntry => (e.key, e.val))
      rw [hrem, List.map_cons, hrem'] at hp2
      obtain ⟨s, u, hsu, hp3⟩ := perm_strs (a := []) hp2
      simp only [Prod.mk.injEq] at hsu
      have hw1b : w1.heap = w.heap := by rcases hw1 with rfl | rfl <;> rfl
      have hrl : r < w.heap.size := (Array.getElem?_eq_some_iff.1 hr).1
      have hne : r ≠ b := by intro e; subst e; rw [hr] at hb; cases hb
      have hblk : (setBlock w1 r (.mapIter (some b) clock (seen.push x.born) clock)).heap[r]? = some (.mapIter (some b) clock (seen.push x.born) clock) := by simp [setBlock, hw1b, hrl]
      have hmap : (setBlock w1 r (.mapIter (some b) clock (seen.push x.born) clock)).heap[b]? = some (.map es clock) := by simp [setBlock, hw1b, Array.getElem?_setIfInBounds, hne, hb]
      have K1 : Keeps (fun k => k = r) w w1 := by rcases hw1 with rfl | rfl; exact Keeps.refl _ _; exact Keeps.drew _ _
      refine ⟨s, u, rem', _, hp3, by rw [hrun, hsu.1, hsu.2], .inr ⟨b, es, clock, seen.push x.born, clock, rfl, hn, hmap, he, h1, h2, hblk, Nat.le_refl _, hrem'⟩, K1.trans (Keeps.set _ _ _), ?_⟩
      intro w2 hw2
      have hr2 : r < (setBlock w1 r (.mapIter (some b) clock (seen.push x.born) clock)).heap.size := (Array.getElem?_eq_some_iff.1 hblk).1
      have hb2 : b < (setBlock w1 r (.mapIter (some b) clock (seen.push x.born) clock)).heap.size := (Array.getElem?_eq_some_iff.1 hmap).1
      have := run_entry_at (P := P) w2 r b clock seen es clock x ((hw2.block r hr2).trans hblk) ((hw2.block b hb2).trans hmap) hxes h2
      rw [this, hsu.1, hsu.2]
end

end Go.Proofs.Qxb6626248aDoor
