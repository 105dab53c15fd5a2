import Derived.Test.Qxb6626217aMerge
namespace Go.Proofs.Qxb6626217a
open Go.ChangeShapes Go.WideShapes Go.ChangeAt Go.RowKit
set_option linter.unusedVariables false
set_option linter.unusedSimpArgs false

theorem hide {p : Prop} (h : p) : Hid p := h
theorem unhide {p : Prop} (h : Hid p) : p := h

theorem info3 : (Try.prog.info? 3).map (fun i => (i.zero, i.size, i.bytes)) = some (some (.int .i64 0), 1, 8) := by kernel_rfl

theorem Row.below {w w' : World} {base g cap : Nat} {m : Ms} (h : Row w base g cap m) (hb : Below w.heap.size w w') : Row w' base g cap m := h.same (hb.block g h.block.2.1)
theorem DCell.below {w w' : World} {D g n cap : Nat} (h : DCell w D g n cap) (hb : Below w.heap.size w w') : DCell w' D g n cap := (hb.block D (lt_of_block h)).trans h
theorem below_drewN {B : Nat} {a w : World} (h : Below B a w) (n : Nat) : Below B a (w.drewN n) := by
  have e : (w.drewN n).heap = w.heap := by simp [World.drewN]
  exact ⟨h.os, h.tape, h.output, by rw [e]; exact h.size, fun k hk => by rw [e]; exact h.block k hk⟩
theorem below_step {B : Nat} {a w w' : World} (h : Below B a w) (hB : B ≤ w.heap.size) (k : Below w.heap.size w w') : Below B a w' := h.trans (k.mono hB)

/-- a row of ints that the call has made -/
def IRow (w : World) (base g : Nat) (l : List Int) : Prop := w.ownsRow base 3 1 (.slice (some ⟨g, 0, none⟩) l.length l.length) l.length (l.map (Value.int .i64))

theorem at0_set (l : List Int) (i : Nat) (x : Int) (p : Nat) (h : i < l.length) : at0 (l.set i x) p = if p = i then x else at0 l p := by
  unfold at0
  rw [List.getElem?_set]
  by_cases hp : p = i
  · subst hp; simp [h]
  · rw [if_neg (by omega), if_neg hp]

theorem IRow.cell {w : World} {base g : Nat} {l : List Int} (h : IRow w base g l) {i : Nat} (hi : i < l.length) : w.cell? ⟨g, i, none⟩ = some (.int .i64 (at0 l i)) := by
  rw [World.ownsRow.cellAt h i (by omega), List.getElem?_map, List.getElem?_eq_getElem hi]
  simp [at0, List.getElem?_eq_getElem hi]
theorem IRow.free {w : World} {base g : Nat} {l : List Int} (h : IRow w base g l) (j : Nat) : w.frozen? ⟨g, j, none⟩ = false := World.ownsRow.frozenAt h j
theorem IRow.store {w : World} {base g : Nat} {l : List Int} (h : IRow w base g l) (i : Nat) (x : Int) : IRow (w.setCell ⟨g, i, none⟩ (.int .i64 x)) base g (l.set i x) := by
  have := (World.ownsRow.stored h i (.int .i64 x)).1
  unfold IRow
  rw [List.length_set, List.map_set]
  exact this
theorem IRow.ints {w : World} {base g : Nat} {l : List Int} (h : IRow w base g l) : Ints w (some ⟨g, 0, none⟩) l :=
  .inr ⟨g, 0, rfl, fun i hi => by rw [Nat.zero_add]; exact h.cell hi⟩
theorem IRow.block {w : World} {base g : Nat} {l : List Int} (h : IRow w base g l) : base ≤ g ∧ g < w.heap.size := by
  have := World.ownsRow.lt h g rfl
  exact this
theorem IRow.same {w w' : World} {base g : Nat} {l : List Int} (h : IRow w base g l) (hb : w'.heap[g]? = w.heap[g]?) : IRow w' base g l := by
  refine ⟨h.1, ?_⟩
  rcases h.2 with ⟨h', _⟩ | ⟨g', cap', cur, h', rest⟩
  · simp at h'
  · simp only [Value.slice.injEq, Option.some.injEq, Addr.mk.injEq, and_true, true_and] at h'
    obtain ⟨rfl, rfl⟩ := h'
    exact .inr ⟨g, l.length, cur, rfl, by rw [hb]; exact rest⟩
theorem IRow.made {w : World} {base g n : Nat} (h : w.ownsRow base 3 1 (.slice (some ⟨g, 0, none⟩) n n) n (madeCells (Value.int .i64 0).cells (n * 1)).toList) : IRow w base g (List.replicate n 0) := by
  unfold IRow
  rw [List.length_replicate, List.map_replicate]
  have e : (madeCells (Value.int .i64 0).cells (n * 1)).toList = List.replicate n (.int .i64 0) := by
    rw [Nat.mul_one]; exact toList_madeCells_one _ _
  rw [e] at h
  exact h

/-- the senders -/
def snds (m : Ms) : List Int := m.map (·.1)
theorem snds_length (m : Ms) : (snds m).length = m.length := by simp [snds]
theorem at0_snds (m : Ms) (i : Nat) (h : i < m.length) : at0 (snds m) i = sA m i := by
  simp [at0, snds, sA, List.getElem?_eq_getElem h]
theorem asc_snds {m : Ms} (h : SAsc m) : Asc (snds m) := by
  intro i hi
  rw [snds_length] at hi
  rw [at0_snds _ _ (by omega), at0_snds _ _ (by omega)]
  exact h i (i + 1) (by omega) hi
theorem ints_ext {a b : List Int} (hl : a.length = b.length) (h : ∀ i, i < a.length → at0 a i = at0 b i) : a = b := by
  apply List.ext_getElem hl
  intro i h1 h2
  have e := h i h1
  simpa [at0, List.getElem?_eq_getElem h1, List.getElem?_eq_getElem h2] using e
theorem sasc_msgs {l t : List Int} (h : Asc l) (e : t.length = l.length) : SAsc (msgs l t) := by
  intro i j hij hj
  rw [msgs_length _ _ e] at hj
  rw [sA_msgs _ _ e _ (by omega), sA_msgs _ _ e _ hj]
  exact asc_lt h hij hj
end Go.Proofs.Qxb6626217a
