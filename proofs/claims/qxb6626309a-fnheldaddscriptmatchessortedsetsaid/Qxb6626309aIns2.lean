import Derived.Test.Qxb6626309aIns
namespace Go.Proofs.Qxb6626309a
open Go.ChangeShapes Go.WideShapes Go.ChangeAt Go.RowKit
set_option linter.unusedVariables false
set_option linter.unusedSimpArgs false

theorem splice_at (A Z r : List Value) (h : r.length ≤ Z.length) : splice (A ++ Z) A.length r = A ++ r ++ Z.drop r.length := by
  unfold splice
  rw [List.take_append_of_le_length (by omega), List.take_of_length_le (by omega), List.drop_append, List.drop_eq_nil_of_le (by omega), List.nil_append, show A.length + r.length - A.length = r.length by omega, List.append_assoc]
theorem splice_fill (A Z r B : List Value) (h : r.length + B.length ≤ Z.length) : splice (splice (A ++ Z) A.length r) (A.length + r.length) B = A ++ (r ++ B) ++ Z.drop (r.length + B.length) := by
  rw [splice_at A Z r (by omega)]
  have := splice_at (A ++ r) (Z.drop r.length) B (by simp; omega)
  rw [List.length_append] at this
  rw [this, List.drop_drop]
  simp

theorem vlt {w : World} {V : Nat} {r : Rg} (hV : VBlk w V r) : V < w.heap.size := by
  rcases Nat.lt_or_ge V w.heap.size with h | h
  · exact h
  · have : w.heap[V]? = _ := hV
    rw [Array.getElem?_eq_none h] at this; cases this

theorem copy_v (W : World) (V G o : Nat) (r : Rg) (cur : List Value) (hW : W.heap[G]? = some (.cells cur.toArray 47 (0, 0))) (hV : VBlk W V r) (hcl : o + 3 ≤ cur.length) (ty dl dc : Nat) (hdl : 0 < dl) :
    (Builtin.copy_ #[28, 28] ty #[.slice (some ⟨G, o, none⟩) dl dc, .slice (some ⟨V, 0, none⟩) 1 1]).run Try.prog W = .ok (goInt 1) (W.setRow G (splice cur o (cellsR r)).toArray) := by
  have hmin : Nat.min 1 dl = 1 := Nat.min_eq_left (by omega)
  have := run_copy_wide (P := Try.prog) W 28 28 ty 47 G o dl dc ⟨V, 0, none⟩ 1 1 cur 47 (cellsR r) 3 Try.underlying28 size47 hW (by rw [hmin]; rfl) hV.cell (by simp [cellsR]; omega)
    (by intro u hu; simp [cellsR] at hu; rcases hu with rfl | rfl | rfl <;> rfl)
  rw [hmin] at this
  exact this

set_option maxHeartbeats 4000000 in
set_option maxRecDepth 100000 in
theorem insert_grow (w : World) (base V G cap i : Nat) (l : List Rg) (r : Rg) (R : RRow w base G cap l) (hV : VBlk w V r) (hl : l.length ≤ 8192) (hi : i < l.length) (hroom : ¬ l.length + 1 ≤ cap) (hbs : base ≤ w.heap.size) :
    Calls Try.prog 22 #[.slice (some ⟨G, 0, none⟩) l.length cap, .int .i64 (i : Int), .slice (some ⟨V, 0, none⟩) 1 1] w fun e w' => ∃ C, e = .returned (.slice (some ⟨w.heap.size, 0, none⟩) (l.length + 1) C) ∧ RRow w' base w.heap.size C (l.take i ++ r :: l.drop i) ∧ Below w.heap.size w w' := by
  have hGl := R.block.2
  obtain ⟨tl, hG, hlen, hn, hm, hb⟩ := R
  have hVl := vlt hV
  obtain ⟨i0, hi0, hz⟩ := Option.map_eq_some_iff.1 info47
  simp only [Prod.mk.injEq] at hz
  obtain ⟨hz0, hz1, hz2⟩ := hz
  have fl := flat_length l
  obtain ⟨A, hA⟩ : ∃ A, A = flat (l.take i) := ⟨_, rfl⟩
  obtain ⟨B, hB⟩ : ∃ B, B = flat (l.drop i) := ⟨_, rfl⟩
  have lA : A.length = i * 3 := by rw [hA, flat_length]; simp; omega
  have lB : B.length = (l.length - i) * 3 := by rw [hB, flat_length]; simp
  have oB : ∀ v ∈ B, v.oneCell' = true := by rw [hB]; exact flat_one _
  have eAB : flat l ++ tl = A ++ (B ++ tl) := by rw [hA, hB, ← List.append_assoc, ← flat_append, List.take_append_drop]
  rw [eAB] at hG hlen
  have hold : (Builtin.firstCells i0.size i (.slice (some ⟨G, 0, none⟩) i cap)).run Try.prog w.drew = .ok A.toArray w.drew := by
    rw [hz1]
    exact run_firstCells_some w.drew 3 i ⟨G, 0, none⟩ i cap A (by omega) (fun j v hj => by
      have hG' : w.drew.heap[G]? = some (.cells (A ++ (B ++ tl)).toArray 47 (0, 0)) := hG
      rw [add_plain, Nat.zero_add, cells_at hG', List.getElem?_append_left (List.getElem?_eq_some_iff.1 hj).1]
      exact hj)
  obtain ⟨C, hC⟩ : ∃ C, C = grownCap w (i + (l.length + 1 - i)) cap 47 := ⟨_, rfl⟩
  have hrz := Lib.run_append_grow_zeros w 28 3 28 47 i0 _ .i64 .i64 Try.underlying28 Try.underlying3 hi0 hz0 (some ⟨G, 0, none⟩) i cap A hold (l.length + 1 - i) (by omega) (by omega) (by omega) (by omega) (by rw [hz2]; omega) (by rw [hz2]; exact growslice_fits (by omega) (by omega))
  rw [← hC] at hrz
  have hik : i + (l.length + 1 - i) = l.length + 1 := by omega
  rw [hik] at hrz hC
  have hCn : l.length + 1 ≤ C := by rw [hC]; exact grownCap_ge w _ _ _
  have hCm : C ≤ maxLen := by rw [hC]; exact grownCap_le_maxLen w _ _ _ (by unfold maxLen; omega)
  rw [show ((l.length + 1 - i : Nat) : Int) = (l.length : Int) + 1 - (i : Int) by omega] at hrz
  obtain ⟨Z, hZ⟩ : ∃ Z : List Value, Z = (Builtin.zeroCells (Value.agg #[.int .i64 0, .int .u64 0, .int .u64 0]).cells (l.length + 1 - i) ++ Builtin.zeroCells (Value.agg #[.int .i64 0, .int .u64 0, .int .u64 0]).cells (C - (l.length + 1))).toList := ⟨_, rfl⟩
  have lZ : Z.length = (C - i) * 3 := by rw [hZ]; simp [Builtin.zeroCells, Value.cells]; omega
  obtain ⟨W1, hW1⟩ : ∃ W1, W1 = w.drew.alloc (.cells (A ++ Z).toArray 47) := ⟨_, rfl⟩
  have eW : w.drew.alloc (.cells (A.toArray ++ Builtin.zeroCells (Value.agg #[.int .i64 0, .int .u64 0, .int .u64 0]).cells (l.length + 1 - i) ++ Builtin.zeroCells (Value.agg #[.int .i64 0, .int .u64 0, .int .u64 0]).cells (C - (l.length + 1))) 47) = W1 := by
    rw [hW1, hZ]
    congr 2
    apply Array.toList_inj.1
    simp
  rw [eW] at hrz
  have b1 : W1.heap[w.heap.size]? = some (.cells (A ++ Z).toArray 47 (0, 0)) := by rw [hW1]; exact heap_alloc_new w.drew _
  have B1 : Below w.heap.size w W1 := by rw [hW1]; exact ((Below.refl _ _).drew).alloc (Nat.le_refl _) _
  have s1 : w.heap.size < W1.heap.size := by rw [hW1]; simp
  have V1 : VBlk W1 V r := (B1.block V hVl).trans hV
  have cpA := copy_v W1 V w.heap.size (i * 3) r (A ++ Z) b1 V1 (by simp; omega) 3 (l.length + 1 - i) (C - i) (by omega)
  obtain ⟨W2, hW2⟩ : ∃ W2, W2 = W1.setRow w.heap.size (splice (A ++ Z) (i * 3) (cellsR r)).toArray := ⟨_, rfl⟩
  have b2 : W2.heap[w.heap.size]? = some (.cells (splice (A ++ Z) (i * 3) (cellsR r)).toArray 47 (0, 0)) := by rw [hW2]; exact setRow_at b1 _
  have B2 : Below w.heap.size w W2 := by rw [hW2]; exact B1.trans ((Kept1.setRow _ _).below (Nat.le_refl _) (by omega))
  rw [← hW2] at cpA
  have l2 : (splice (A ++ Z) (i * 3) (cellsR r)).length = (A ++ Z).length := length_splice _ _ _ (by simp [cellsR]; omega)
  have cpB : (Builtin.copy_ #[28, 28] 3 #[.slice (some ⟨w.heap.size, (i + 1) * 3, none⟩) (l.length - i) (C - (i + 1)), .slice (some ⟨G, i * 3, none⟩) (l.length - i) (cap - i)]).run Try.prog W2.drew = .ok (goInt (l.length - i : Nat)) (W2.drew.setRow w.heap.size (splice (splice (A ++ Z) (i * 3) (cellsR r)) ((i + 1) * 3) B).toArray) := by
    have hmin : Nat.min (l.length - i) (l.length - i) = l.length - i := Nat.min_self _
    have hGW : W2.drew.heap[G]? = some (.cells (A ++ (B ++ tl)).toArray 47 (0, 0)) := (B2.block G hGl).trans hG
    have := run_copy_wide (P := Try.prog) W2.drew 28 28 3 47 w.heap.size ((i + 1) * 3) (l.length - i) (C - (i + 1)) ⟨G, i * 3, none⟩ (l.length - i) (cap - i) _ 47 B 3 Try.underlying28 size47 b2 (by rw [hmin, lB])
      (fun j v hj => by
        rw [add_plain, cells_at hGW, ← lA, List.getElem?_append_right (by omega), show A.length + j - A.length = j by omega, List.getElem?_append_left (List.getElem?_eq_some_iff.1 hj).1]
        exact hj) (by rw [l2]; simp; omega) oB
    rw [hmin] at this
    exact this
  obtain ⟨W3, hW3⟩ : ∃ W3, W3 = W2.drew.setRow w.heap.size (splice (splice (A ++ Z) (i * 3) (cellsR r)) ((i + 1) * 3) B).toArray := ⟨_, rfl⟩
  have s2 := B2.size
  have b3 : W3.heap[w.heap.size]? = some (.cells (splice (splice (A ++ Z) (i * 3) (cellsR r)) ((i + 1) * 3) B).toArray 47 (0, 0)) := by rw [hW3]; exact setRow_at (w := W2.drew) b2 _
  have B3 : Below w.heap.size w W3 := by rw [hW3]; exact B2.drew.trans ((Kept1.setRow _ _).below (Nat.le_refl _) s2)
  rw [← hW3] at cpB
  have e : splice (splice (A ++ Z) (i * 3) (cellsR r)) ((i + 1) * 3) B = flat (l.take i ++ r :: l.drop i) ++ Z.drop (3 + B.length) := by
    rw [← lA, show (i + 1) * 3 = A.length + (cellsR r).length by simp [cellsR]; omega, splice_fill A Z (cellsR r) B (by simp [cellsR]; omega), flat_append, hA, hB]
    rfl
  rw [e] at b3
  have RR : RRow W3 base w.heap.size C (l.take i ++ r :: l.drop i) := ⟨_, b3, by rw [List.length_append, flat_length]; simp; omega, by simp; omega, hCm, hbs⟩
  have hC63 : C ≤ 9223372036854775807 := by unfold maxLen at hCm; omega
  have hc1 : ¬ (C = i) := by omega
  have hc2 : ¬ (C = i + 1) := by omega
  have hc3 : ¬ (cap = i) := by omega
  have mixed : Try.prog.follows .mixedOrders = true := by kernel_rfl
  have hw1 : IntKind.i64.wrap ((i : Int) + 1) = (i : Int) + 1 := by rw [IntKind.wrap_i64]; omega
  have hb0 : (0 : Int) ≤ (i : Int) + 1 := by omega
  have htn : ((i : Int) + 1).toNat = i + 1 := by omega
  have hb3 : (i : Int) ≤ (l.length : Int) := by omega
  have hb4 : (i : Int) + 1 ≤ (l.length : Int) + 1 := by omega
  clear hC hZ hW1 eW b1 B1 V1 hW2 b2 B2 l2 hW3 b3 e hA hB eAB hG fl hold lZ lA lB oB hlen hik s1 s2
  go_enter Try.func22, Try.ntmps22
  go_wp2_with (first
    | (at_builtin; refine Lib.wpList_append_run _ rfl _ _ _ _ rfl _ _ rfl rfl _ _ hrz ?_)
    | (at_builtin; refine wpList_copy_runI _ rfl _ _ 28 28 rfl _ _ rfl rfl cpA ?_))
  go_region
  go_wp2
  go_ret
  exact ⟨_, rfl, RR, B3⟩
end Go.Proofs.Qxb6626309a
