import Derived.Test.Qxb6626309aWide
namespace Go.Proofs.Qxb6626309a
open Go.ChangeShapes Go.WideShapes Go.ChangeAt Go.RowKit
set_option linter.unusedVariables false
set_option linter.unusedSimpArgs false

theorem hide {p : Prop} (h : p) : Hid p := h
theorem unhide {p : Prop} (h : Hid p) : p := h

structure Rg where
  s : Int
  f : Int
  l : Int
def cellsR (r : Rg) : List Value := [.int .i64 r.s, .int .u64 r.f, .int .u64 r.l]
def flat : List Rg → List Value
  | [] => []
  | r :: t => cellsR r ++ flat t
theorem flat_append (a b : List Rg) : flat (a ++ b) = flat a ++ flat b := by
  induction a with
  | nil => rfl
  | cons x a ih => simp [flat, ih]
theorem flat_length (l : List Rg) : (flat l).length = l.length * 3 := by
  induction l with
  | nil => rfl
  | cons x a ih => simp [flat, cellsR, ih]; omega
theorem flat_take (l : List Rg) (i : Nat) (h : i ≤ l.length) : (flat l).take (i * 3) = flat (l.take i) := by
  have e : flat l = flat (l.take i) ++ flat (l.drop i) := by rw [← flat_append, List.take_append_drop]
  have hl : (flat (l.take i)).length = i * 3 := by rw [flat_length]; simp; omega
  rw [e, List.take_append_of_le_length (by omega), List.take_of_length_le (by omega)]
theorem flat_drop (l : List Rg) (i : Nat) (h : i ≤ l.length) : (flat l).drop (i * 3) = flat (l.drop i) := by
  have e : flat l = flat (l.take i) ++ flat (l.drop i) := by rw [← flat_append, List.take_append_drop]
  have hl : (flat (l.take i)).length = i * 3 := by rw [flat_length]; simp; omega
  rw [e, List.drop_append_of_le_length (by omega), List.drop_eq_nil_of_le (by omega), List.nil_append]
theorem flat_one (l : List Rg) : ∀ v ∈ flat l, v.oneCell' = true := by
  induction l with
  | nil => intro v hv; simp [flat] at hv
  | cons x a ih =>
    intro v hv
    simp only [flat, List.mem_append] at hv
    rcases hv with hv | hv
    · simp [cellsR] at hv; rcases hv with rfl | rfl | rfl <;> rfl
    · exact ih v hv

/-- a row of ranges -/
def RRow (w : World) (base G cap : Nat) (l : List Rg) : Prop :=
  ∃ tl : List Value, w.heap[G]? = some (.cells (flat l ++ tl).toArray 47 (0, 0)) ∧ (flat l ++ tl).length = cap * 3 ∧ l.length ≤ cap ∧ cap ≤ maxLen ∧ base ≤ G
theorem RRow.owns {w : World} {base G cap : Nat} {l : List Rg} (h : RRow w base G cap l) : w.ownsRow base 47 3 (.slice (some ⟨G, 0, none⟩) l.length cap) l.length (flat l) := by
  obtain ⟨tl, h1, h2, h3, h4, h5⟩ := h
  refine ⟨flat_length l, .inr ⟨G, cap, (flat l ++ tl).toArray, rfl, h5, h1, h3, h4, by simpa using h2, ?_⟩⟩
  simp [← flat_length]
theorem RRow.of_owns {w : World} {base G cap : Nat} {l : List Rg} (h : w.ownsRow base 47 3 (.slice (some ⟨G, 0, none⟩) l.length cap) l.length (flat l)) : RRow w base G cap l := by
  obtain ⟨_, ⟨h', _⟩ | ⟨g, c, cur, h', hb, hc, h3, h4, h5, h6⟩⟩ := h
  · simp at h'
  · simp only [Value.slice.injEq, Option.some.injEq, Addr.mk.injEq, and_true, true_and] at h'
    obtain ⟨rfl, rfl⟩ := h'
    have e : flat l ++ cur.toList.drop (l.length * 3) = cur.toList := by rw [← h6, List.take_append_drop]
    exact ⟨cur.toList.drop (l.length * 3), by rw [e]; exact hc, by rw [e]; simpa using h5, h3, h4, hb⟩
theorem RRow.block {w : World} {base G cap : Nat} {l : List Rg} (h : RRow w base G cap l) : base ≤ G ∧ G < w.heap.size := by
  obtain ⟨tl, h1, _, _, _, h5⟩ := h
  refine ⟨h5, ?_⟩
  rcases Nat.lt_or_ge G w.heap.size with h | h
  · exact h
  · rw [Array.getElem?_eq_none h] at h1; cases h1
theorem RRow.same {w w' : World} {base G cap : Nat} {l : List Rg} (h : RRow w base G cap l) (e : w'.heap[G]? = w.heap[G]?) : RRow w' base G cap l := by
  obtain ⟨tl, h1, h2⟩ := h
  exact ⟨tl, e.trans h1, h2⟩

/-- a slice of ranges -/
def RSl (w : World) (base : Nat) (v : Value) (l : List Rg) : Prop := (v = .slice none 0 0 ∧ l = []) ∨ ∃ G cap, v = .slice (some ⟨G, 0, none⟩) l.length cap ∧ RRow w base G cap l
/-- only the slice's own block turns -/
def KeptV (v : Value) (w w' : World) : Prop := ∀ S, (∀ k, v.ownBlock = some k → k = S) → Kept1 S w w'
theorem KeptV.trans {v : Value} {w w' w'' : World} (h : KeptV v w w') (k : KeptV v w' w'') : KeptV v w w'' := fun S hS => (h S hS).trans (k S hS)

theorem info47 : (Try.prog.info? 47).map (fun i => (i.zero, i.size, i.bytes)) = some (some (.agg #[.int .i64 0, .int .u64 0, .int .u64 0]), 3, 24) := by kernel_rfl

/-- append of one range -/
theorem wpList_append_rg {P : Program} (w : World) {ops : Array Oper} {rest : List Oper} {o : Oper} {a : Act} {Q : Exit → Act → World → Prop}
    (hg : o.guard = none) (s x : Operand) (t : TypeId) (hop : o.op = Op.call { callee := Callee.builtin Builtin.append, args := #[s, x], argTypes := #[t, t] })
    (base : Nat) (i : TypeInfo) (z : Value) (h1 : P.underlying t = some (.slice 47)) (h2 : P.info? 47 = some i) (h3 : i.zero = some z) (h4 : i.size = 3) (h5 : i.bytes = 24) (h6 : z.cells.size = 3)
    (v : Value) (l : List Rg) (hs : a.eval s = v) (hrow : RSl w base v l)
    (ad : Addr) (c : Nat) (r : Rg) (hx : a.eval x = .slice (some ad) 1 c) (hc : ∀ j u, (cellsR r)[j]? = some u → w.cell? (ad.add j) = some u)
    (b1 : l.length ≤ 4294967296) (hb : base ≤ w.heap.size)
    (hK : ∀ v' w', RSl w' base v' (l ++ [r]) → KeptV v w w' → wpList P ops Q rest (a.put o.dst v') w') :
    wpList P ops Q (o :: rest) a w := by
  have one : ∀ u ∈ cellsR r, u.oneCell' = true := by
    intro u hu; simp [cellsR] at hu; rcases hu with rfl | rfl | rfl <;> rfl
  have ef : flat l ++ cellsR r = flat (l ++ [r]) := by rw [flat_append]; simp [flat]
  have hlen : (l ++ [r]).length = l.length + 1 := by simp
  have grow : ∀ p cap, v = .slice p l.length cap → (p = none → l.length = 0 ∧ cap = 0) → (∀ b, p = some b → ∀ j u, (flat l)[j]? = some u → w.cell? (b.add j) = some u) → ¬ l.length + 1 ≤ cap → wpList P ops Q (o :: rest) a w := by
    intro p cap hp hn hcell hr
    refine wpList_append_grows w hg s x t hop 47 i z 3 24 h1 h2 h3 h4 h5 h6 (by decide) p l.length cap (flat l) (hs.trans hp) ?_ (flat_length l) hcell ad 1 c (cellsR r) hx rfl hc one (by omega) (by unfold maxLen; omega) (by omega) ?_
    · exact hn
    · intro v' w' hown hgrow
      rw [ef] at hown
      rcases hown.2 with ⟨_, h⟩ | ⟨g', cap', cur, rfl, hbg, rest'⟩
      · omega
      · refine hK _ w' (.inr ⟨g', cap', by rw [hlen], RRow.of_owns ?_⟩) (fun S hS => ?_)
        · rw [hlen]
          exact ⟨by rw [flat_length, hlen], .inr ⟨g', cap', cur, rfl, by omega, rest'⟩⟩
        · exact ⟨hgrow.os, hgrow.tape, hgrow.output, hgrow.size, fun k hk hlt => hgrow.block k hlt (fun e => by cases e)⟩
  rcases hrow with ⟨rfl, rfl⟩ | ⟨G, cap, rfl, R⟩
  · exact grow none 0 rfl (fun _ => ⟨rfl, rfl⟩) (fun b h => by cases h) (by simp)
  · by_cases hr : l.length + 1 ≤ cap
    · refine wpList_append_fits w hg s x t hop base 47 i 3 h1 h2 h4 G l.length cap (flat l) hs R.owns ad 1 c (cellsR r) hx rfl hc one hr ?_
      intro w' hown hgrow
      rw [ef] at hown
      refine hK _ w' (.inr ⟨G, cap, by rw [hlen], RRow.of_owns (by rw [hlen]; exact hown)⟩) (fun S hS => ?_)
      obtain rfl := hS G rfl
      exact ⟨hgrow.os, hgrow.tape, hgrow.output, hgrow.size, fun k hk hlt => hgrow.block k hlt (fun e => hk (by cases e; rfl))⟩
    · exact grow (some ⟨G, 0, none⟩) cap rfl (fun h => by cases h) (fun b h j u hu => by cases h; exact World.ownsRow.cells R.owns rfl j u hu) hr

/-- the variadic argument's block -/
def VBlk (w : World) (V : Nat) (r : Rg) : Prop := w.heap[V]? = some (.cells (cellsR r).toArray 47 (0, 0))
theorem VBlk.cell {w : World} {V : Nat} {r : Rg} (h : VBlk w V r) : ∀ j u, (cellsR r)[j]? = some u → w.cell? ((⟨V, 0, none⟩ : Addr).add j) = some u := by
  intro j u hj
  rw [add_plain, Nat.zero_add]
  simp [World.cell?, show w.heap[V]? = _ from h, hj]

set_option maxHeartbeats 4000000 in
set_option maxRecDepth 100000 in
theorem insert_end (w : World) (base V : Nat) (v : Value) (l : List Rg) (r : Rg) (hv : RSl w base v l) (hV : VBlk w V r) (hl : l.length ≤ 8192) (hb : base ≤ w.heap.size) :
    Calls Try.prog 22 #[v, .int .i64 (l.length : Int), .slice (some ⟨V, 0, none⟩) 1 1] w fun e w' => ∃ v', e = .returned v' ∧ RSl w' base v' (l ++ [r]) ∧ KeptV v w w' := by
  obtain ⟨i0, hi, hz⟩ := Option.map_eq_some_iff.1 info47
  simp only [Prod.mk.injEq] at hz
  obtain ⟨hz0, hz1, hz2⟩ := hz
  have hc := hV.cell
  have hv0 := hide hv
  have hc0 := hide hc
  clear hc hV
  rcases hv with ⟨rfl, rfl⟩ | ⟨G, cap, rfl, R⟩
  · go_enter Try.func22, Try.ntmps22
    go_wp2_with (at_builtin; refine wpList_append_rg _ rfl _ _ 28 rfl base i0 _ Try.underlying28 hi hz0 hz1 hz2 rfl (.slice none 0 0) [] rfl (unhide hv0) ⟨V, 0, none⟩ 1 r rfl (unhide hc0) (by simp) hb ?_; intro v' w' hR hK)
    go_ret
    exact ⟨_, rfl, hR, hK⟩
  · have hcap : l.length ≤ cap := by obtain ⟨_, _, _, h, _⟩ := R; exact h
    go_enter Try.func22, Try.ntmps22
    go_wp2_with (at_builtin; refine wpList_append_rg _ rfl _ _ 28 rfl base i0 _ Try.underlying28 hi hz0 hz1 hz2 rfl (.slice (some ⟨G, 0, none⟩) l.length cap) l rfl (unhide hv0) ⟨V, 0, none⟩ 1 r rfl (unhide hc0) (by omega) hb ?_; intro v' w' hR hK)
    all_goals (go_ret; exact ⟨_, rfl, hR, hK⟩)

theorem size47 : (Try.prog.info? 47).map (·.size) = some 3 := by kernel_rfl
theorem zero47 : ∀ w, (zeroValue 47).run Try.prog w = .ok (.agg #[.int .i64 0, .int .u64 0, .int .u64 0]) w := fun w => by kernel_rfl
theorem sz47 : ∀ w, (Go.sizeOf 47).run Try.prog w = .ok 3 w := fun w => by kernel_rfl

theorem cells_at {w : World} {G : Nat} {cur : List Value} {t : TypeId} {fz : Nat × Nat} (h : w.heap[G]? = some (.cells cur.toArray t fz)) (k : Nat) : w.cell? ⟨G, k, none⟩ = cur[k]? := by
  simp [World.cell?, h]

theorem splice_shift (A B D r : List Value) (k : Nat) (hk : r.length = k) (hD : k ≤ D.length) : splice (splice (A ++ (B ++ D)) (A.length + k) B) A.length r = A ++ (r ++ B) ++ D.drop k := by
  have e1 : splice (A ++ (B ++ D)) (A.length + k) B = (A ++ (B ++ D)).take (A.length + k) ++ (B ++ D.drop k) := by
    unfold splice
    congr 2
    rw [show A.length + k + B.length = A.length + (B.length + k) by omega, List.drop_append, List.drop_eq_nil_of_le (by omega), List.nil_append, show A.length + (B.length + k) - A.length = B.length + k by omega, List.drop_append, List.drop_eq_nil_of_le (by omega), List.nil_append]
    congr 1
    omega
  have e2 : ((A ++ (B ++ D)).take (A.length + k)).length = A.length + k := by simp; omega
  rw [e1]
  unfold splice
  have e3 : ((A ++ (B ++ D)).take (A.length + k) ++ (B ++ D.drop k)).take A.length = A := by
    rw [List.take_append_of_le_length (by omega), List.take_take, Nat.min_eq_left (by omega), List.take_append_of_le_length (by omega), List.take_of_length_le (by omega)]
  have e4 : ((A ++ (B ++ D)).take (A.length + k) ++ (B ++ D.drop k)).drop (A.length + r.length) = B ++ D.drop k := by
    rw [hk, List.drop_append, List.drop_eq_nil_of_le (by omega), List.nil_append, e2, Nat.sub_self, List.drop_zero]
  rw [e3, e4]
  simp

theorem overlaps_no (w : World) (V G : Nat) (r : Rg) (cur : List Value) (hV : VBlk w V r) (hG : w.heap[G]? = some (.cells cur.toArray 47 (0, 0))) (hne : V ≠ G) (hcur : 0 < cur.length) (o lb cb : Nat) :
    (callFunc 23 #[.slice (some ⟨V, 0, none⟩) 1 1, .slice (some ⟨G, o, none⟩) lb cb]).run Try.prog w = .ok (.value (.bool false)) w := by
  rw [run_callFunc_extern Try.func23 (by kernel_rfl) (by kernel_rfl) (by kernel_rfl) (e := Extern.SlicesOverlaps.overlaps #[28, 28] #[4]) (by kernel_rfl),
    Lib.run_overlaps_apart w 28 4 47 Try.underlying28 3 sz47 ⟨V, 0, none⟩ ⟨G, o, none⟩ 1 1 lb cb hne 47 47 3 cur.length (by simp [World.shape?, show w.heap[V]? = _ from hV, cellsR]) (by simp [World.shape?, hG]) (by omega)
      (by simp [World.frozen?, show w.heap[V]? = _ from hV]) (by simp [World.frozen?, show w.heap[V]? = _ from hV])]
  rfl

set_option maxHeartbeats 4000000 in
set_option maxRecDepth 100000 in
theorem insert_shift (w : World) (base V G cap i : Nat) (l : List Rg) (r : Rg) (R : RRow w base G cap l) (hV : VBlk w V r) (hne : V ≠ G) (hl : l.length ≤ 8192) (hi : i < l.length) (hroom : l.length + 1 ≤ cap) :
    Calls Try.prog 22 #[.slice (some ⟨G, 0, none⟩) l.length cap, .int .i64 (i : Int), .slice (some ⟨V, 0, none⟩) 1 1] w fun e w' => e = .returned (.slice (some ⟨G, 0, none⟩) (l.length + 1) cap) ∧ RRow w' base G cap (l.take i ++ r :: l.drop i) ∧ Kept1 G w w' := by
  obtain ⟨tl, hG, hlen, hn, hm, hb⟩ := R
  have fl := flat_length l
  obtain ⟨A, hA⟩ : ∃ A, A = flat (l.take i) := ⟨_, rfl⟩
  obtain ⟨B, hB⟩ : ∃ B, B = flat (l.drop i) := ⟨_, rfl⟩
  have lA : A.length = i * 3 := by rw [hA, flat_length]; simp; omega
  have lB : B.length = (l.length - i) * 3 := by rw [hB, flat_length]; simp
  have oB : ∀ v ∈ B, v.oneCell' = true := by rw [hB]; exact flat_one _
  have eAB : flat l ++ tl = A ++ (B ++ tl) := by rw [hA, hB, ← List.append_assoc, ← flat_append, List.take_append_drop]
  rw [eAB] at hG hlen
  have ltl : 3 ≤ tl.length := by simp at hlen; omega
  have hov := overlaps_no w V G r _ hV hG hne (by simp; omega)
  have hcp1 : ∀ (W : World), W.heap = w.heap → ∀ ty dc sc, (Builtin.copy_ #[28, 28] ty #[.slice (some ⟨G, (i + 1) * 3, none⟩) (l.length - i) dc, .slice (some ⟨G, i * 3, none⟩) (l.length + 1 - i) sc]).run Try.prog W = .ok (goInt (l.length - i : Nat)) (W.setRow G (splice (A ++ (B ++ tl)) ((i + 1) * 3) B).toArray) := fun W hW ty dc sc => by
    have hG' : W.heap[G]? = some (.cells (A ++ (B ++ tl)).toArray 47 (0, 0)) := by rw [hW]; exact hG
    have hmin : Nat.min (l.length + 1 - i) (l.length - i) = l.length - i := Nat.min_eq_right (by omega)
    have := run_copy_wide (P := Try.prog) W 28 28 ty 47 G ((i + 1) * 3) (l.length - i) dc ⟨G, i * 3, none⟩ (l.length + 1 - i) sc (A ++ (B ++ tl)) 47 B 3 Try.underlying28 size47 hG' (by rw [hmin, lB])
      (fun j v hj => by
        rw [add_plain, cells_at hG', ← lA, List.getElem?_append_right (by omega), show A.length + j - A.length = j by omega, List.getElem?_append_left (List.getElem?_eq_some_iff.1 hj).1]
        exact hj) (by simp; omega) oB
    rw [hmin] at this
    exact this
  have hcp2 : ∀ (W : World) (cur : List Value), W.heap[G]? = some (.cells cur.toArray 47 (0, 0)) → W.heap[V]? = w.heap[V]? → (A.length + 3 ≤ cur.length) → ∀ ty dl dc, 0 < dl → (Builtin.copy_ #[28, 28] ty #[.slice (some ⟨G, i * 3, none⟩) dl dc, .slice (some ⟨V, 0, none⟩) 1 1]).run Try.prog W = .ok (goInt 1) (W.setRow G (splice cur (i * 3) (cellsR r)).toArray) := fun W cur hW hWV hcl ty dl dc hdl => by
    have hmin : Nat.min 1 dl = 1 := Nat.min_eq_left (by omega)
    have hVW : VBlk W V r := hWV.trans hV
    have := run_copy_wide (P := Try.prog) W 28 28 ty 47 G (i * 3) dl dc ⟨V, 0, none⟩ 1 1 cur 47 (cellsR r) 3 Try.underlying28 size47 hW (by rw [hmin]; rfl) hVW.cell (by simp [cellsR]; omega)
      (by intro u hu; simp [cellsR] at hu; rcases hu with rfl | rfl | rfl <;> rfl)
    rw [hmin] at this
    exact this
  have mixed : Try.prog.follows .mixedOrders = true := by kernel_rfl
  have hw1 : IntKind.i64.wrap ((i : Int) + 1) = (i : Int) + 1 := by rw [IntKind.wrap_i64]; omega
  have hb0 : (0 : Int) ≤ (i : Int) + 1 := by omega
  have htn : ((i : Int) + 1).toNat = i + 1 := by omega
  have hb1 : ¬ (cap = i + 1) := by omega
  have hb2 : ¬ (cap = i) := by omega
  have hb3 : (i : Int) ≤ (l.length : Int) + 1 := by omega
  have hb4 : (i : Int) + 1 ≤ (l.length : Int) + 1 := by omega
  have hset := setRow_at (w := w.drew) (g := G) (t := 47) (cur := A ++ (B ++ tl)) hG (splice (A ++ (B ++ tl)) ((i + 1) * 3) B)
  have lsp : (splice (A ++ (B ++ tl)) ((i + 1) * 3) B).length = (A ++ (B ++ tl)).length := length_splice _ _ _ (by simp; omega)
  obtain ⟨W1, hW1⟩ : ∃ x, x = w.drew.setRow G (splice (A ++ (B ++ tl)) ((i + 1) * 3) B).toArray := ⟨_, rfl⟩
  have K1 : Kept1 G w W1 := by subst hW1; exact (Kept1.drew _).trans (Kept1.setRow _ _)
  have cp1 := hcp1 w.drew rfl 3 (cap - (i + 1)) (cap - i)
  rw [← hW1] at hset cp1
  clear hW1
  obtain ⟨c1, hc1⟩ : ∃ x, x = splice (A ++ (B ++ tl)) ((i + 1) * 3) B := ⟨_, rfl⟩
  rw [← hc1] at hset lsp
  have Vl : V < w.heap.size := by
    rcases Nat.lt_or_ge V w.heap.size with h | h
    · exact h
    · have : w.heap[V]? = _ := hV
      rw [Array.getElem?_eq_none h] at this; cases this
  have cp2 := hcp2 W1 c1 hset (K1.block V hne Vl) (by rw [lsp]; simp; omega)
  have cp2 := cp2 3 (l.length + 1 - i) (cap - i) (by omega)
  have hset2 := setRow_at (w := W1) hset (splice c1 (i * 3) (cellsR r))
  obtain ⟨W2, hW2⟩ : ∃ x, x = W1.setRow G (splice c1 (i * 3) (cellsR r)).toArray := ⟨_, rfl⟩
  have K2 : Kept1 G w W2 := by subst hW2; exact K1.trans (Kept1.setRow _ _)
  have e : splice c1 (i * 3) (cellsR r) = flat (l.take i ++ r :: l.drop i) ++ tl.drop 3 := by
    rw [hc1, show (i + 1) * 3 = A.length + 3 by omega, ← lA, splice_shift A B tl (cellsR r) 3 rfl ltl, flat_append, hA, hB]
    rfl
  rw [← hW2] at cp2 hset2
  rw [e] at hset2
  have RR : RRow W2 base G cap (l.take i ++ r :: l.drop i) := ⟨tl.drop 3, hset2, by rw [List.length_append, flat_length]; simp at hlen ⊢; omega, by simp; omega, hm, hb⟩
  clear hcp1 hcp2 hc1 hA hB eAB hG fl hset hset2 lsp hW2 e K1 lA lB oB hlen
  go_enter Try.func22, Try.ntmps22
  go_wp2_with (simp only [hov])
  go_region
  go_wp2
  go_ret
  exact ⟨rfl, RR, K2⟩
end Go.Proofs.Qxb6626309a
