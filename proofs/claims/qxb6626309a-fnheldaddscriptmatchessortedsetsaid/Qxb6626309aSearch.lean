import Derived.Test.Qxb6626309aPl
namespace Go.Proofs.Qxb6626309a
open Go.ChangeShapes Go.WideShapes Go.ChangeAt Go.RowKit
set_option linter.unusedVariables false
set_option linter.unusedSimpArgs false

theorem below_step {B : Nat} {a w w' : World} (h : Below B a w) (hB : B ≤ w.heap.size) (k : Below w.heap.size w w') : Below B a w' := h.trans (k.mono hB)
theorem drewN_drewN (w : World) (a b : Nat) : (w.drewN a).drewN b = w.drewN (a + b) := by simp
theorem flat_get (l : List Rg) (k : Nat) (hk : k < l.length) : (flat l)[k * 3]? = some (.int .i64 (sR l k)) ∧ (flat l)[k * 3 + 1]? = some (.int .u64 (fR l k)) ∧ (flat l)[k * 3 + 2]? = some (.int .u64 (lR l k)) := by
  induction l generalizing k with
  | nil => simp at hk
  | cons x l ih =>
    cases k with
    | zero => simp [flat, cellsR, sR, fR, lR, rA]
    | succ k =>
      have := ih k (by simpa using hk)
      have e : ∀ c, (flat (x :: l))[(k + 1) * 3 + c]? = (flat l)[k * 3 + c]? := fun c => by
        rw [flat, List.getElem?_append_right (by simp [cellsR]; omega)]
        congr 1
        simp [cellsR]; omega
      have e2 : sR (x :: l) (k + 1) = sR l k ∧ fR (x :: l) (k + 1) = fR l k ∧ lR (x :: l) (k + 1) = lR l k := by simp [sR, fR, lR, rA]
      rw [e2.1, e2.2.1, e2.2.2, e 1, e 2]
      have e0 := e 0
      rw [Nat.add_zero, Nat.add_zero] at e0
      rw [e0]
      exact this
theorem RRow.cells {w : World} {base G cap : Nat} {l : List Rg} (h : RRow w base G cap l) {k : Nat} (hk : k < l.length) :
    w.cell? ⟨G, k * 3, none⟩ = some (.int .i64 (sR l k)) ∧ w.cell? ⟨G, k * 3 + 1, none⟩ = some (.int .u64 (fR l k)) ∧ w.cell? ⟨G, k * 3 + 2, none⟩ = some (.int .u64 (lR l k)) := by
  obtain ⟨tl, h1, _⟩ := h
  have fl := flat_length l
  have g := flat_get l k hk
  rw [cells_at h1, cells_at h1, cells_at h1, List.getElem?_append_left (by omega), List.getElem?_append_left (by omega), List.getElem?_append_left (by omega)]
  exact g

/-- the Held's block -/
def Hd (w : World) (H : Nat) (v : Value) : Prop := w.heap[H]? = some (.cells #[v, .pointer none, .bool false] 31 (0, 0))
theorem Hd.c0 {w : World} {H : Nat} {v : Value} (h : Hd w H v) : w.cell? ⟨H, 0, none⟩ = some v := by simp [World.cell?, show w.heap[H]? = _ from h]
theorem Hd.fr {w : World} {H : Nat} {v : Value} (h : Hd w H v) : w.frozen? ⟨H, 0, none⟩ = false := by simp [World.frozen?, show w.heap[H]? = _ from h]
theorem Hd.lt {w : World} {H : Nat} {v : Value} (h : Hd w H v) : H < w.heap.size := by
  rcases Nat.lt_or_ge H w.heap.size with h1 | h1
  · exact h1
  · have h2 : w.heap[H]? = _ := h
    rw [Array.getElem?_eq_none h1] at h2; cases h2
theorem Hd.below {w w' : World} {H : Nat} {v : Value} (h : Hd w H v) (hb : Below w.heap.size w w') : Hd w' H v := (hb.block H h.lt).trans h
theorem RRow.below {w w' : World} {base G cap : Nat} {l : List Rg} (h : RRow w base G cap l) (hb : Below w.heap.size w w') : RRow w' base G cap l := h.same (hb.block G h.block.2)
theorem RSl.below {w w' : World} {base : Nat} {v : Value} {l : List Rg} (h : RSl w base v l) (hb : Below w.heap.size w w') : RSl w' base v l := by
  rcases h with h | ⟨G, cap, rfl, R⟩
  · exact .inl h
  · exact .inr ⟨G, cap, rfl, R.below hb⟩
/-- the id's box -/
def Box2 (w : World) (I : Nat) (s n : Int) : Prop := w.heap[I]? = some (.cells #[.int .i64 s, .int .u64 n] 35 (0, 0))
theorem Box2.c0 {w : World} {I : Nat} {s n : Int} (h : Box2 w I s n) : w.cell? ⟨I, 0, none⟩ = some (.int .i64 s) := by simp [World.cell?, show w.heap[I]? = _ from h]
theorem Box2.c1 {w : World} {I : Nat} {s n : Int} (h : Box2 w I s n) : w.cell? ⟨I, 1, none⟩ = some (.int .u64 n) := by simp [World.cell?, show w.heap[I]? = _ from h]
theorem Box2.lt {w : World} {I : Nat} {s n : Int} (h : Box2 w I s n) : I < w.heap.size := by
  rcases Nat.lt_or_ge I w.heap.size with h1 | h1
  · exact h1
  · have h2 : w.heap[I]? = _ := h
    rw [Array.getElem?_eq_none h1] at h2; cases h2
theorem Box2.below {w w' : World} {I : Nat} {s n : Int} (h : Box2 w I s n) (hb : Below w.heap.size w w') : Box2 w' I s n := (hb.block I h.lt).trans h

set_option maxHeartbeats 4000000 in
set_option maxRecDepth 100000 in
theorem search_some (w : World) (base H G cap : Nat) (l : List Rg) (s n : Int) (hH : Hd w H (.slice (some ⟨G, 0, none⟩) l.length cap)) (R : RRow w base G cap l) (g : Hid (Good l)) (hl : l.length ≤ 8192) :
    Calls Try.prog 19 #[.pointer (some ⟨H, 0, none⟩), .agg #[.int .i64 s, .int .u64 n]] w fun e w' => (∃ i : Nat, e = .returned (.int .i64 (i : Int)) ∧ Hid (Place l s n i)) ∧ Below w.heap.size w w' := by
  have d0 := hH.c0
  go_enter Try.func19, Try.ntmps19
  go_wp2
  obtain ⟨w1, hw1⟩ : ∃ x, x = w.alloc (.cells #[.int .i64 s, .int .u64 n] 35) := ⟨_, rfl⟩
  have B1 : Below w.heap.size w w1 := by subst hw1; exact (Below.refl _ _).alloc (Nat.le_refl _) _
  have X1 : Box2 w1 w.heap.size s n := by subst hw1; exact heap_alloc_new w _
  rw [← hw1]
  clear hw1
  have d1 := (hH.below B1).c0
  go_quiet (fail)
  go_wp2
  obtain ⟨w2, hw2⟩ : ∃ x, x = w1.drewN nq := ⟨_, rfl⟩
  have B12 : Below w1.heap.size w1 w2 := by subst hw2; exact below_drewN (Below.refl _ _) _
  have s1 := B1.size
  have B2 := below_step B1 s1 B12
  have X2 := X1.below B12
  rw [← hw2]
  clear hw2 B12 B1 X1 d1
  go_loopw [5, 6] (fun lo hi wr => ∃ p q : Nat, p ≤ q ∧ q ≤ l.length ∧ lo = .int .i64 (p : Int) ∧ hi = .int .i64 (q : Int) ∧ Hid ((∀ k, k < p → bef l k s n) ∧ ∀ k, q ≤ k → k < l.length → ¬ bef l k s n) ∧ Box2 wr w.heap.size s n ∧ Below w.heap.size w wr) (fun lo hi _ => (intOf hi).toNat - (intOf lo).toNat)
  case atStart => exact ⟨0, l.length, Nat.zero_le _, Nat.le_refl _, rfl, rfl, hide ⟨fun k hk => by omega, fun k h1 h2 => by omega⟩, X2, B2⟩
  case round =>
    clear B2 X2 d0
    obtain ⟨p, q, hpq, hq, rfl, rfl, A, X, B⟩ := hrel
    obtain ⟨wa, hwa⟩ : ∃ x, x = wr := ⟨_, rfl⟩
    subst hwa
    by_cases hlt : p < q
    · have hml : (p + q) / 2 < l.length := by omega
      obtain ⟨c0, c1, c2⟩ := (R.below B).cells hml
      obtain ⟨sv, hsv⟩ : ∃ x, x = sR l ((p + q) / 2) := ⟨_, rfl⟩
      obtain ⟨fv, hfv⟩ : ∃ x, x = fR l ((p + q) / 2) := ⟨_, rfl⟩
      obtain ⟨lv, hlv⟩ : ∃ x, x = lR l ((p + q) / 2) := ⟨_, rfl⟩
      rw [← hsv] at c0
      rw [← hfv] at c1
      rw [← hlv] at c2
      have Sv := hide hsv
      have Lv := hide hlv
      have d1 := (hH.below B).c0
      have x0 := X.c0
      have x1 := X.c1
      have bl := B.size
      have xl := X.lt
      have Bn : ∀ v : Value, Below wa.heap.size wa (wa.alloc (.cells #[.int .i64 sv, .int .u64 fv, .int .u64 lv] 47)) := fun _ => (Below.refl _ _).alloc (Nat.le_refl _) _
      have up : Hid (sv < s ∨ (sv = s ∧ lv < n) → ∀ k, k < (p + q) / 2 + 1 → bef l k s n) := hide (fun h k hk => by
        have hb : bef l ((p + q) / 2) s n := by unfold bef; rw [← hsv, ← hlv]; exact h
        by_cases hk2 : k = (p + q) / 2
        · rw [hk2]; exact hb
        · exact bef_down (unhide g) (by omega) hml hb)
      have dn : Hid (¬ (sv < s ∨ (sv = s ∧ lv < n)) → ∀ k, (p + q) / 2 ≤ k → k < l.length → ¬ bef l k s n) := hide (fun h k hk hkl hb => by
        apply h
        have hb2 : bef l ((p + q) / 2) s n := by
          by_cases hk2 : k = (p + q) / 2
          · rw [← hk2]; exact hb
          · exact bef_down (unhide g) (by omega) hkl hb
        unfold bef at hb2
        rw [← hsv, ← hlv] at hb2
        exact hb2)
      clear hsv hfv hlv hml
      by_cases h1 : sv < s
      · have e1 : decide (sv < s) = true := by simpa using h1
        go_wp2
        go_roundw
        case rel => exact ⟨(p + q) / 2 + 1, q, by omega, by omega, by go_num, rfl, hide ⟨unhide up (.inl h1), (unhide A).2⟩, X.below ((Below.refl _ _).alloc (Nat.le_refl _) _), below_step B bl ((Below.refl _ _).alloc (Nat.le_refl _) _)⟩
        case measure => simp [intOf]; omega
      · have e1 : decide (sv < s) = false := by simpa using h1
        by_cases h2 : sv = s
        · have e2 : (sv == s) = true := by simpa using h2
          by_cases h3 : lv < n
          · have e3 : decide (lv < n) = true := by simpa using h3
            have h4 := hide (show sv < s ∨ (sv = s ∧ lv < n) from .inr ⟨h2, h3⟩)
            clear h2
            go_wp2
            go_roundw
            case rel => exact ⟨(p + q) / 2 + 1, q, by omega, by omega, by go_num, rfl, hide ⟨unhide up (unhide h4), (unhide A).2⟩, X.below ((Below.refl _ _).alloc (Nat.le_refl _) _), below_step B bl ((Below.refl _ _).alloc (Nat.le_refl _) _)⟩
            case measure => simp [intOf]; omega
          · have e3 : decide (lv < n) = false := by simpa using h3
            have h4 := hide (show ¬ (sv < s ∨ (sv = s ∧ lv < n)) from by omega)
            clear h2
            go_wp2
            go_roundw
            case rel => exact ⟨p, (p + q) / 2, by omega, by omega, rfl, by go_num, hide ⟨(unhide A).1, unhide dn (unhide h4)⟩, X.below ((Below.refl _ _).alloc (Nat.le_refl _) _), below_step B bl ((Below.refl _ _).alloc (Nat.le_refl _) _)⟩
            case measure => simp [intOf]; omega
        · have e2 : (sv == s) = false := by simpa using h2
          have h4 := hide (show ¬ (sv < s ∨ (sv = s ∧ lv < n)) from by omega)
          go_wp2
          go_roundw
          case rel => exact ⟨p, (p + q) / 2, by omega, by omega, rfl, by go_num, hide ⟨(unhide A).1, unhide dn (unhide h4)⟩, X.below ((Below.refl _ _).alloc (Nat.le_refl _) _), below_step B bl ((Below.refl _ _).alloc (Nat.le_refl _) _)⟩
          case measure => simp [intOf]; omega
    · obtain rfl : p = q := by omega
      go_wp2
      go_ret
      exact ⟨⟨p, rfl, hide ⟨by omega, (unhide A).1, (unhide A).2⟩⟩, B⟩
end Go.Proofs.Qxb6626309a
