import Derived.Test.Qxb6626309aFnd
namespace Go.Proofs.Qxb6626309a
open Go.ChangeShapes Go.WideShapes Go.ChangeAt Go.RowKit
set_option linter.unusedVariables false
set_option linter.unusedSimpArgs false

/-! rows of ids -/
def flat2 : IdL → List Value
  | [] => []
  | p :: r => .int .i64 p.1 :: .int .u64 p.2 :: flat2 r
theorem flat2_length (m : IdL) : (flat2 m).length = m.length * 2 := by
  induction m with
  | nil => rfl
  | cons p r ih => simp only [flat2, List.length_cons, ih]; omega
theorem flat2_get0 (m : IdL) (i : Nat) (h : i < m.length) : (flat2 m)[i * 2]? = some (.int .i64 (iA m i)) := by
  induction m generalizing i with
  | nil => simp at h
  | cons p r ih =>
    cases i with
    | zero => simp [flat2, iA]
    | succ i =>
      have := ih i (by simpa using h)
      rw [show (i + 1) * 2 = i * 2 + 1 + 1 from by omega]
      simpa [flat2, iA] using this
theorem flat2_get1 (m : IdL) (i : Nat) (h : i < m.length) : (flat2 m)[i * 2 + 1]? = some (.int .u64 (nA m i)) := by
  induction m generalizing i with
  | nil => simp at h
  | cons p r ih =>
    cases i with
    | zero => simp [flat2, nA]
    | succ i =>
      have := ih i (by simpa using h)
      rw [show (i + 1) * 2 + 1 = (i * 2 + 1) + 1 + 1 from by omega]
      simpa [flat2, nA] using this
theorem flat2_set (m : IdL) (i : Nat) (s t : Int) : ((flat2 m).set (i * 2) (.int .i64 s)).set (i * 2 + 1) (.int .u64 t) = flat2 (m.set i (s, t)) := by
  induction m generalizing i with
  | nil => simp [flat2]
  | cons p r ih =>
    cases i with
    | zero => simp [flat2]
    | succ i =>
      rw [show (i + 1) * 2 = i * 2 + 1 + 1 from by omega]
      have := ih i
      simp only [flat2, List.set_cons_succ]
      rw [this]
theorem iA_set (m : IdL) (i : Nat) (x : Int × Int) (p : Nat) (h : i < m.length) : iA (m.set i x) p = if p = i then x.1 else iA m p := by
  unfold iA
  rw [List.getElem?_set]
  by_cases hp : p = i
  · subst hp; simp [h]
  · rw [if_neg (by omega), if_neg hp]
theorem nA_set (m : IdL) (i : Nat) (x : Int × Int) (p : Nat) (h : i < m.length) : nA (m.set i x) p = if p = i then x.2 else nA m p := by
  unfold nA
  rw [List.getElem?_set]
  by_cases hp : p = i
  · subst hp; simp [h]
  · rw [if_neg (by omega), if_neg hp]
theorem ids_ext {a b : IdL} (hl : a.length = b.length) (hs : ∀ i, i < a.length → iA a i = iA b i ∧ nA a i = nA b i) : a = b := by
  apply List.ext_getElem hl
  intro i h1 h2
  obtain ⟨e1, e2⟩ := hs i h1
  simp only [iA, nA, List.getElem?_eq_getElem h1, List.getElem?_eq_getElem h2, Option.getD_some] at e1 e2
  exact Prod.ext e1 e2

def Row2 (w : World) (base g cap : Nat) (m : IdL) : Prop := w.ownsRow base 26 2 (.slice (some ⟨g, 0, none⟩) m.length cap) m.length (flat2 m)
theorem Row2.cell0 {w : World} {base g cap : Nat} {m : IdL} (h : Row2 w base g cap m) {i : Nat} (hi : i < m.length) : w.cell? ⟨g, i * 2, none⟩ = some (.int .i64 (iA m i)) :=
  (h.cellAt (i * 2) (by omega)).trans (flat2_get0 m i hi)
theorem Row2.cell1 {w : World} {base g cap : Nat} {m : IdL} (h : Row2 w base g cap m) {i : Nat} (hi : i < m.length) : w.cell? ⟨g, i * 2 + 1, none⟩ = some (.int .u64 (nA m i)) :=
  (h.cellAt (i * 2 + 1) (by omega)).trans (flat2_get1 m i hi)
theorem Row2.free {w : World} {base g cap : Nat} {m : IdL} (h : Row2 w base g cap m) (j : Nat) : w.frozen? ⟨g, j, none⟩ = false := h.frozenAt j
theorem Row2.same {w w' : World} {base g cap : Nat} {m : IdL} (h : Row2 w base g cap m) (hb : w'.heap[g]? = w.heap[g]?) : Row2 w' base g cap m := by
  refine ⟨h.1, ?_⟩
  rcases h.2 with ⟨h', _⟩ | ⟨g', cap', cur, h', rest⟩
  · simp at h'
  · simp only [Value.slice.injEq, Option.some.injEq, Addr.mk.injEq, and_true, true_and] at h'
    obtain ⟨rfl, rfl⟩ := h'
    exact .inr ⟨g, cap, cur, rfl, by rw [hb]; exact rest⟩
theorem Row2.store {w : World} {base g cap : Nat} {m : IdL} (h : Row2 w base g cap m) (i : Nat) (s t : Int) :
    Row2 ((w.setCell ⟨g, i * 2, none⟩ (.int .i64 s)).setCell ⟨g, i * 2 + 1, none⟩ (.int .u64 t)) base g cap (m.set i (s, t)) := by
  have h1 := (h.stored (i * 2) (.int .i64 s)).1
  have h2 := (h1.stored (i * 2 + 1) (.int .u64 t)).1
  rw [flat2_set] at h2
  unfold Row2
  rw [List.length_set]
  exact h2
theorem Row2.ids {w : World} {base g cap : Nat} {m : IdL} (h : Row2 w base g cap m) : Ids w (some ⟨g, 0, none⟩) m :=
  .inr ⟨g, 0, rfl, fun i hi => by rw [Nat.zero_add]; exact ⟨h.cell0 hi, h.cell1 hi⟩⟩

theorem Row2.blk {w : World} {base g cap : Nat} {m : IdL} (h : Row2 w base g cap m) : ∃ cur, w.heap[g]? = some (.cells cur 26 (0, 0)) := by
  rcases h.2 with ⟨h', _⟩ | ⟨g', cap', cur, h', hb, hg, hnc, _⟩
  · simp at h'
  · simp only [Value.slice.injEq, Option.some.injEq, Addr.mk.injEq, and_true, true_and] at h'
    obtain ⟨rfl, rfl⟩ := h'
    exact ⟨cur, hg⟩
/-- the model's slice -/
def MdS (w : World) (a : Option Addr) (m : IdL) : Prop := m = [] ∨ ∃ g cur, a = some ⟨g, 0, none⟩ ∧ w.heap[g]? = some (.cells cur 26 (0, 0)) ∧ Ids w a m
theorem MdS.ids {w : World} {a : Option Addr} {m : IdL} (h : MdS w a m) : Ids w a m := by
  rcases h with h | ⟨_, _, _, _, h⟩
  · exact .inl h
  · exact h
theorem Row2.mds {w : World} {base g cap : Nat} {m : IdL} (h : Row2 w base g cap m) : MdS w (some ⟨g, 0, none⟩) m := by
  obtain ⟨cur, hc⟩ := h.blk
  exact .inr ⟨g, cur, rfl, hc, h.ids⟩

theorem info26 : (Try.prog.info? 26).map (fun i => (i.zero, i.size, i.bytes)) = some (some (.agg #[.int .i64 0, .int .u64 0]), 2, 16) := by kernel_rfl

theorem made_flat2 (n : Nat) : (madeCells (Value.agg #[.int .i64 0, .int .u64 0]).cells (n * 2)).toList = flat2 (List.replicate n (0, 0)) := by
  apply List.ext_getElem?
  intro j
  by_cases hj : j < n * 2
  · obtain ⟨i, hi | hi⟩ : ∃ i, j = i * 2 ∨ j = i * 2 + 1 := ⟨j / 2, by omega⟩
    · subst hi
      rw [flat2_get0 _ _ (by simp; omega)]
      have e : iA (List.replicate n (0, 0)) i = 0 := by simp [iA, List.getElem?_replicate, show i < n from by omega]
      rw [e]
      simp [madeCells, Value.cells, show i * 2 < n * 2 from hj]
    · subst hi
      rw [flat2_get1 _ _ (by simp; omega)]
      have e : nA (List.replicate n (0, 0)) i = 0 := by simp [nA, List.getElem?_replicate, show i < n from by omega]
      rw [e]
      simp [madeCells, Value.cells, show i * 2 + 1 < n * 2 from hj, show (i * 2 + 1) % 2 = 1 from by omega]
  · rw [List.getElem?_eq_none (by simp [madeCells]; omega), List.getElem?_eq_none (by rw [flat2_length]; simp; omega)]

set_option maxHeartbeats 1000000 in
theorem insert_ids (w : World) (a : Option Addr) (c : Nat) (m : IdL) (p : Nat) (s n : Int) (h : Ids w a m) (hp : p ≤ m.length) (hl : m.length ≤ 4096) :
    Calls Try.prog 8 #[.slice a m.length c, .int .i64 (p : Int), .agg #[.int .i64 s, .int .u64 n]] w fun e w' => (∃ g, e = .returned (.slice (some ⟨g, 0, none⟩) (m.length + 1) (m.length + 1)) ∧ MdS w' (some ⟨g, 0, none⟩) (ins m p (s, n))) ∧ Below w.heap.size w w' := by
  obtain ⟨i0, hi, hz0, hz1, hz2⟩ := info_parts info26
  go_enter Try.func8, Try.ntmps8
  go_wp2_with (at_make; refine wpList_make_full _ rfl _ _ 22 rfl w.heap.size 26 i0 (.agg #[.int .i64 0, .int .u64 0]) 2 Try.underlying22 hi hz0 hz1 .i64 .i64 _ _ (m.length + 1) rfl rfl rfl rfl (by rw [hz2]; omega) (by unfold maxLen; omega) (by simp) ?_; intro w2 hown hgrow)
  obtain ⟨w1, hw1⟩ : ∃ x, x = w.alloc (.cells #[.int .i64 s, .int .u64 n] 26) := ⟨_, rfl⟩
  rw [← hw1] at hgrow hown
  have B1 : Below w.heap.size w w1 := by subst hw1; exact (Below.refl _ _).alloc (Nat.le_refl _) _
  have X1 : BoxG w1 w.heap.size s n := by subst hw1; exact heap_alloc_new w _
  have sz1 : w1.heap.size = w.heap.size + 1 := by subst hw1; simp
  have h1 := h.below B1
  have s1 := B1.size
  have B2 : Below w1.heap.size w1 w2 := (Below.refl _ _).grown hgrow (Nat.le_refl _) (fun k hk => by cases hk)
  have R2 : Row2 w2 w.heap.size (w.heap.size + 1) (m.length + 1) (List.replicate (m.length + 1) (0, 0)) := by
    rw [made_flat2] at hown
    unfold Row2
    rw [List.length_replicate, ← sz1]
    exact hown
  clear hw1 hown hgrow h
  obtain ⟨G, hG⟩ : ∃ x, x = w.heap.size + 1 := ⟨_, rfl⟩
  rw [← hG] at sz1 R2 ⊢
  have sz : Hid (w1.heap.size ≤ G) := hide (Nat.le_of_eq sz1)
  clear hG sz1
  have F := hide (fun W (hW : Below w1.heap.size w1 W) => below_step B1 s1 hW)
  go_loopw [8] (fun kv wr => ∃ (k : Nat) (r : IdL), k ≤ p ∧ kv = .int .i64 (k : Int) ∧ r.length = m.length + 1 ∧ Row2 wr w.heap.size G (m.length + 1) r ∧ Hid (∀ j, j < k → iA r j = iA m j ∧ nA r j = nA m j) ∧ Below w1.heap.size w1 wr) (fun kv _ => p - (intOf kv).toNat)
  case atStart => exact ⟨0, _, Nat.zero_le _, rfl, by simp, R2, hide (fun j hj => by omega), B2⟩
  case round =>
    clear R2 B2
    obtain ⟨k, r, hk, rfl, hr, R, A, B⟩ := hrel
    by_cases hkp : k < p
    · obtain ⟨b, off, rfl, hc⟩ := (h1.below B).get (by omega)
      obtain ⟨c0, c1⟩ := hc k (by omega)
      have d0 := R.cell0 (i := k) (by omega)
      have d1 := R.cell1 (i := k) (by omega)
      have f0 := R.free (k * 2)
      have f1 := R.free (k * 2 + 1)
      clear hc
      go_wp2
      go_roundw
      case rel =>
        refine ⟨k + 1, r.set k (iA m k, nA m k), by omega, by go_num, by simpa using hr, R.store k _ _, hide ?_, ((B.setCell (unhide sz) _).setCell (unhide sz) _)⟩
        intro j hj
        rw [iA_set _ _ _ _ (by omega), nA_set _ _ _ _ (by omega)]
        by_cases hjk : j = k
        · subst hjk; simp
        · simpa [hjk] using unhide A j (by omega)
      case measure => simp [intOf]; omega
    · obtain rfl : k = p := by omega
      clear hk hkp
      have X := X1.below B
      have x0 := X.c0
      have x1 := X.c1
      have d0 := R.cell0 (i := k) (by omega)
      have d1 := R.cell1 (i := k) (by omega)
      have f0 := R.free (k * 2)
      have f1 := R.free (k * 2 + 1)
      go_wp2
      obtain ⟨w3, hw3⟩ : ∃ x, x = (wr.setCell ⟨G, k * 2, none⟩ (.int .i64 s)).setCell ⟨G, k * 2 + 1, none⟩ (.int .u64 n) := ⟨_, rfl⟩
      have R3 : Row2 w3 w.heap.size G (m.length + 1) (r.set k (s, n)) := by rw [hw3]; exact R.store k _ _
      have A3 : Hid (∀ j, j ≤ k → iA (r.set k (s, n)) j = iA (ins m k (s, n)) j ∧ nA (r.set k (s, n)) j = nA (ins m k (s, n)) j) := hide (fun j hj => by
        rw [iA_set _ _ _ _ (by omega), nA_set _ _ _ _ (by omega), ins_iA hp, ins_nA hp]
        by_cases hjk : j = k
        · subst hjk; simp
        · simp only [if_neg hjk, if_pos (show j < k by omega)]; exact unhide A j (by omega))
      have B3 : Below w1.heap.size w1 w3 := by rw [hw3]; exact (B.setCell (unhide sz) _).setCell (unhide sz) _
      have r3 : (r.set k (s, n)).length = m.length + 1 := by simpa using hr
      rw [← hw3]
      clear hw3 R A B X x0 x1 d0 d1 f0 f1 hr
      obtain ⟨r', hr'⟩ : ∃ x, x = r.set k (s, n) := ⟨_, rfl⟩
      rw [← hr'] at R3 A3 r3
      clear hr'
      go_loopw [9] (fun jv wr => ∃ (j : Nat) (r : IdL), k ≤ j ∧ j ≤ m.length ∧ jv = .int .i64 (j : Int) ∧ r.length = m.length + 1 ∧ Row2 wr w.heap.size G (m.length + 1) r ∧ Hid (∀ i, i ≤ j → iA r i = iA (ins m k (s, n)) i ∧ nA r i = nA (ins m k (s, n)) i) ∧ Below w1.heap.size w1 wr) (fun jv _ => m.length - (intOf jv).toNat)
      case atStart => exact ⟨k, r', Nat.le_refl _, hp, rfl, r3, R3, A3, B3⟩
      case round =>
        clear R3 A3 B3 r3
        obtain ⟨j, r, hkj, hj, rfl, hr, R, A, B⟩ := hrel
        by_cases hjm : j < m.length
        · obtain ⟨b, off, rfl, hc⟩ := (h1.below B).get (by omega)
          obtain ⟨c0, c1⟩ := hc j (by omega)
          have d0 := R.cell0 (i := j + 1) (by omega)
          have d1 := R.cell1 (i := j + 1) (by omega)
          have f0 := R.free ((j + 1) * 2)
          have f1 := R.free ((j + 1) * 2 + 1)
          clear hc
          go_wp2
          go_roundw
          case rel =>
            refine ⟨j + 1, r.set (j + 1) (iA m j, nA m j), by omega, by omega, by go_num, by simpa using hr, R.store (j + 1) _ _, hide ?_, ((B.setCell (unhide sz) _).setCell (unhide sz) _)⟩
            intro i hi
            rw [iA_set _ _ _ _ (by omega), nA_set _ _ _ _ (by omega)]
            by_cases hij : i = j + 1
            · subst hij
              rw [if_pos rfl, if_pos rfl, ins_iA hp, ins_nA hp, if_neg (show ¬ j + 1 < k by omega), if_neg (show ¬ j + 1 < k by omega), if_neg (show ¬ j + 1 = k by omega), if_neg (show ¬ j + 1 = k by omega)]
              exact ⟨rfl, rfl⟩
            · simp only [if_neg hij]; exact unhide A i (by omega)
          case measure => simp [intOf]; omega
        · obtain rfl : j = m.length := by omega
          go_wp2
          go_ret
          have e : r = ins m k (s, n) := ids_ext (by rw [hr, ins_length hp]) (fun i hi => unhide A i (by omega))
          exact ⟨⟨G, rfl, e ▸ R.mds⟩, unhide F _ B⟩

theorem insert_any2 (w : World) (a : Option Addr) (c : Nat) (m : IdL) (p : Nat) (s n : Int) (h : Ids w a m) (hp : p ≤ m.length) (hl : m.length ≤ 4096) :
    Calls Try.prog 8 #[.slice a m.length c, .int .i64 (p : Int), .agg #[.int .i64 s, .int .u64 n]] w fun e w' => (∃ g m', e = .returned (.slice (some ⟨g, 0, none⟩) (List.length m') (List.length m')) ∧ Hid (m' = ins m p (s, n)) ∧ MdS w' (some ⟨g, 0, none⟩) m') ∧ Below w.heap.size w w' := by
  refine (insert_ids w a c m p s n h hp hl).mono ?_
  rintro e w' ⟨⟨g, rfl, M⟩, B⟩
  exact ⟨⟨g, ins m p (s, n), by rw [ins_length hp], hide rfl, M⟩, B⟩
end Go.Proofs.Qxb6626309a
