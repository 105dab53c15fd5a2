import Derived.WalkKit
import Derived.Deep.QuietTactic
namespace Go.Proofs.Qxb6626217a
open Go.RowKit

/-! lists of messages: (sender, time) -/
abbrev Ms := List (Int × Int)
def sA (m : Ms) (i : Nat) : Int := (m[i]?.getD (0, 0)).1
def tA (m : Ms) (i : Nat) : Int := (m[i]?.getD (0, 0)).2

/-- the cells of a list of messages -/
def flat : Ms → List Value
  | [] => []
  | p :: r => .int .i64 p.1 :: .int .i64 p.2 :: flat r

theorem flat_length (m : Ms) : (flat m).length = m.length * 2 := by
  induction m with
  | nil => rfl
  | cons p r ih => simp only [flat, List.length_cons, ih]; omega

theorem flat_append (a b : Ms) : flat (a ++ b) = flat a ++ flat b := by
  induction a with
  | nil => rfl
  | cons p r ih => simp only [flat, List.cons_append, ih]

theorem flat_get0 (m : Ms) (i : Nat) (h : i < m.length) : (flat m)[i * 2]? = some (.int .i64 (sA m i)) := by
  induction m generalizing i with
  | nil => simp at h
  | cons p r ih =>
    cases i with
    | zero => simp [flat, sA]
    | succ i =>
      have := ih i (by simpa using h)
      rw [show (i + 1) * 2 = i * 2 + 1 + 1 from by omega]
      simpa [flat, sA] using this

theorem flat_get1 (m : Ms) (i : Nat) (h : i < m.length) : (flat m)[i * 2 + 1]? = some (.int .i64 (tA m i)) := by
  induction m generalizing i with
  | nil => simp at h
  | cons p r ih =>
    cases i with
    | zero => simp [flat, tA]
    | succ i =>
      have := ih i (by simpa using h)
      rw [show (i + 1) * 2 + 1 = (i * 2 + 1) + 1 + 1 from by omega]
      simpa [flat, tA] using this

theorem flat_set (m : Ms) (i : Nat) (s t : Int) : ((flat m).set (i * 2) (.int .i64 s)).set (i * 2 + 1) (.int .i64 t) = flat (m.set i (s, t)) := by
  induction m generalizing i with
  | nil => simp [flat]
  | cons p r ih =>
    cases i with
    | zero => simp [flat]
    | succ i =>
      rw [show (i + 1) * 2 = i * 2 + 1 + 1 from by omega]
      have := ih i
      simp only [flat, List.set_cons_succ]
      rw [this]

theorem flat_set1 (m : Ms) (i : Nat) (t : Int) : (flat m).set (i * 2 + 1) (.int .i64 t) = flat (m.set i (sA m i, t)) := by
  induction m generalizing i with
  | nil => simp [flat]
  | cons p r ih =>
    cases i with
    | zero => simp [flat, sA]
    | succ i =>
      rw [show (i + 1) * 2 + 1 = (i * 2 + 1) + 1 + 1 from by omega]
      have := ih i
      simp only [flat, List.set_cons_succ]
      rw [this]
      simp [sA]

/-! element access behind list operations -/
theorem sA_set (m : Ms) (i : Nat) (x : Int × Int) (p : Nat) (h : i < m.length) : sA (m.set i x) p = if p = i then x.1 else sA m p := by
  unfold sA
  rw [List.getElem?_set]
  by_cases hp : p = i
  · subst hp; simp [h]
  · rw [if_neg (by omega), if_neg hp]
theorem tA_set (m : Ms) (i : Nat) (x : Int × Int) (p : Nat) (h : i < m.length) : tA (m.set i x) p = if p = i then x.2 else tA m p := by
  unfold tA
  rw [List.getElem?_set]
  by_cases hp : p = i
  · subst hp; simp [h]
  · rw [if_neg (by omega), if_neg hp]
theorem sA_snoc (m : Ms) (x : Int × Int) (p : Nat) (h : p ≤ m.length) : sA (m ++ [x]) p = if p = m.length then x.1 else sA m p := by
  unfold sA
  by_cases hp : p = m.length
  · subst hp; simp
  · rw [List.getElem?_append_left (by omega), if_neg hp]
theorem tA_snoc (m : Ms) (x : Int × Int) (p : Nat) (h : p ≤ m.length) : tA (m ++ [x]) p = if p = m.length then x.2 else tA m p := by
  unfold tA
  by_cases hp : p = m.length
  · subst hp; simp
  · rw [List.getElem?_append_left (by omega), if_neg hp]
theorem ms_ext {a b : Ms} (hl : a.length = b.length) (hs : ∀ i, i < a.length → sA a i = sA b i) (ht : ∀ i, i < a.length → tA a i = tA b i) : a = b := by
  apply List.ext_getElem hl
  intro i h1 h2
  have e1 := hs i h1
  have e2 := ht i h1
  simp only [sA, tA, List.getElem?_eq_getElem h1, List.getElem?_eq_getElem h2, Option.getD_some] at e1 e2
  exact Prod.ext e1 e2

/-! rows of messages in memory -/
/-- the row at the head of block g, of capacity cap, whose first cells are m's -/
def Row (w : World) (base g cap : Nat) (m : Ms) : Prop := w.ownsRow base 34 2 (.slice (some ⟨g, 0, none⟩) m.length cap) m.length (flat m)

theorem Row.cell0 {w : World} {base g cap : Nat} {m : Ms} (h : Row w base g cap m) {i : Nat} (hi : i < m.length) : w.cell? ⟨g, i * 2, none⟩ = some (.int .i64 (sA m i)) :=
  (h.cellAt (i * 2) (by omega)).trans (flat_get0 m i hi)
theorem Row.cell1 {w : World} {base g cap : Nat} {m : Ms} (h : Row w base g cap m) {i : Nat} (hi : i < m.length) : w.cell? ⟨g, i * 2 + 1, none⟩ = some (.int .i64 (tA m i)) :=
  (h.cellAt (i * 2 + 1) (by omega)).trans (flat_get1 m i hi)
theorem Row.free {w : World} {base g cap : Nat} {m : Ms} (h : Row w base g cap m) (j : Nat) : w.frozen? ⟨g, j, none⟩ = false := h.frozenAt j
theorem Row.block {w : World} {base g cap : Nat} {m : Ms} (h : Row w base g cap m) : base ≤ g ∧ g < w.heap.size ∧ m.length ≤ cap ∧ ∃ cur, w.heap[g]? = some (.cells cur 34 (0, 0)) := by
  rcases h.2 with ⟨h', _⟩ | ⟨g', cap', cur, h', hb, hg, hnc, _⟩
  · simp at h'
  · simp only [Value.slice.injEq, Option.some.injEq, Addr.mk.injEq, and_true, true_and] at h'
    obtain ⟨rfl, rfl⟩ := h'
    exact ⟨hb, (Array.getElem?_eq_some_iff.1 hg).1, hnc, cur, hg⟩
theorem Row.same {w w' : World} {base g cap : Nat} {m : Ms} (h : Row w base g cap m) (hb : w'.heap[g]? = w.heap[g]?) : Row w' base g cap m := by
  refine ⟨h.1, ?_⟩
  rcases h.2 with ⟨h', _⟩ | ⟨g', cap', cur, h', rest⟩
  · simp at h'
  · simp only [Value.slice.injEq, Option.some.injEq, Addr.mk.injEq, and_true, true_and] at h'
    obtain ⟨rfl, rfl⟩ := h'
    exact .inr ⟨g, cap, cur, rfl, by rw [hb]; exact rest⟩
theorem Row.rebase {w : World} {base base' g cap : Nat} {m : Ms} (h : Row w base g cap m) (hb : base' ≤ g) : Row w base' g cap m := by
  refine ⟨h.1, ?_⟩
  rcases h.2 with ⟨h', _⟩ | ⟨g', cap', cur, h', _, rest⟩
  · simp at h'
  · simp only [Value.slice.injEq, Option.some.injEq, Addr.mk.injEq, and_true, true_and] at h'
    obtain ⟨rfl, rfl⟩ := h'
    exact .inr ⟨g, cap, cur, rfl, hb, rest⟩
/-- one whole element is stored -/
theorem Row.store {w : World} {base g cap : Nat} {m : Ms} (h : Row w base g cap m) (i : Nat) (s t : Int) :
    Row ((w.setCell ⟨g, i * 2, none⟩ (.int .i64 s)).setCell ⟨g, i * 2 + 1, none⟩ (.int .i64 t)) base g cap (m.set i (s, t)) := by
  have h1 := (h.stored (i * 2) (.int .i64 s)).1
  have h2 := (h1.stored (i * 2 + 1) (.int .i64 t)).1
  rw [flat_set] at h2
  unfold Row
  rw [List.length_set]
  exact h2
/-- one time is stored -/
theorem Row.storeT {w : World} {base g cap : Nat} {m : Ms} (h : Row w base g cap m) (i : Nat) (t : Int) :
    Row (w.setCell ⟨g, i * 2 + 1, none⟩ (.int .i64 t)) base g cap (m.set i (sA m i, t)) := by
  have h2 := (h.stored (i * 2 + 1) (.int .i64 t)).1
  rw [flat_set1] at h2
  unfold Row
  rw [List.length_set]
  exact h2

/-! what a call may have turned -/
/-- all blocks of w but those in P are as they were -/
structure Keeps (P : Nat → Prop) (w w' : World) : Prop where
  os : w'.os = w.os
  tape : w'.tape = w.tape
  output : w'.output = w.output
  size : w.heap.size ≤ w'.heap.size
  block : ∀ k, k < w.heap.size → ¬ P k → w'.heap[k]? = w.heap[k]?

theorem Keeps.refl (P : Nat → Prop) (w : World) : Keeps P w w := ⟨rfl, rfl, rfl, Nat.le_refl _, fun _ _ _ => rfl⟩
theorem Keeps.trans {P : Nat → Prop} {a b c : World} (h : Keeps P a b) (k : Keeps P b c) : Keeps P a c :=
  ⟨k.os.trans h.os, k.tape.trans h.tape, k.output.trans h.output, Nat.le_trans h.size k.size, fun i hi hp => (k.block i (Nat.lt_of_lt_of_le hi h.size) hp).trans (h.block i hi hp)⟩
/-- .. where the second step may turn blocks that the first world did not have -/
theorem Keeps.andThen {P Q : Nat → Prop} {a b c : World} (h : Keeps P a b) (k : Keeps Q b c) (hPQ : ∀ i, i < a.heap.size → Q i → P i) : Keeps P a c :=
  ⟨k.os.trans h.os, k.tape.trans h.tape, k.output.trans h.output, Nat.le_trans h.size k.size, fun i hi hp => (k.block i (Nat.lt_of_lt_of_le hi h.size) (fun hq => hp (hPQ i hi hq))).trans (h.block i hi hp)⟩
theorem Keeps.drewN (P : Nat → Prop) (w : World) (n : Nat) : Keeps P w (w.drewN n) := by
  have e : (w.drewN n).heap = w.heap := by simp [World.drewN]
  exact ⟨rfl, rfl, rfl, by rw [e]; exact Nat.le_refl _, fun k _ _ => by rw [e]⟩
theorem Keeps.alloc (P : Nat → Prop) (w : World) (o : Obj) : Keeps P w (w.alloc o) :=
  ⟨rfl, rfl, rfl, by simp, fun k hk _ => Below.heap_alloc w o k hk⟩
theorem Keeps.setCell {P : Nat → Prop} (w : World) (a : Addr) (u : Value) (h : P a.block) : Keeps P w (w.setCell a u) :=
  ⟨rfl, rfl, rfl, by simp [World.setCell], fun k _ hk => Below.heap_setCell _ _ _ _ (fun e => hk (e ▸ h))⟩
theorem Keeps.grown {P : Nat → Prop} {w w' : World} {row : Option Nat} (hg : w.grownBy w' row) (h : ∀ k, row = some k → P k) : Keeps P w w' :=
  ⟨hg.os, hg.tape, hg.output, hg.size, fun k hk hp => hg.block k hk (fun e => hp (h k e.symm))⟩
theorem Keeps.below {P : Nat → Prop} {w w' : World} (h : Keeps P w w') {B : Nat} (hB : B ≤ w.heap.size) (hP : ∀ k, P k → B ≤ k) : Below B w w' :=
  ⟨h.os, h.tape, h.output, h.size, fun k hk => h.block k (by omega) (fun hp => by have := hP k hp; omega)⟩
theorem Keeps.of_below {P : Nat → Prop} {w w' : World} (h : Below w.heap.size w w') : Keeps P w w' :=
  ⟨h.os, h.tape, h.output, h.size, fun k hk _ => h.block k hk⟩
theorem Keeps.row {P : Nat → Prop} {w w' : World} (h : Keeps P w w') {base g cap : Nat} {m : Ms} (hr : Row w base g cap m) (hp : ¬ P g) : Row w' base g cap m :=
  hr.same (h.block g hr.block.2.1 hp)

end Go.Proofs.Qxb6626217a
