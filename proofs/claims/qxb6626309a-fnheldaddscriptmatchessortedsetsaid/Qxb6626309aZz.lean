import Derived.Test.Qxb6626309aUniq
namespace Go.Proofs.Qxb6626309a
open Go.ChangeShapes Go.WideShapes Go.ChangeAt Go.RowKit
set_option linter.unusedVariables false
set_option linter.unusedSimpArgs false

abbrev IdL := List (Int × Int)
def iA (l : IdL) (k : Nat) : Int := (l[k]?.getD (0, 0)).1
def nA (l : IdL) (k : Nat) : Int := (l[k]?.getD (0, 0)).2
def Ids (w : World) (a : Option Addr) (l : IdL) : Prop :=
  l = [] ∨ ∃ b off, a = some ⟨b, off, none⟩ ∧ ∀ i, i < l.length → w.cell? ⟨b, off + i * 2, none⟩ = some (.int .i64 (iA l i)) ∧ w.cell? ⟨b, off + i * 2 + 1, none⟩ = some (.int .u64 (nA l i))
theorem Ids.get {w : World} {a : Option Addr} {l : IdL} (h : Ids w a l) (hl : 0 < l.length) : ∃ b off, a = some ⟨b, off, none⟩ ∧ ∀ i, i < l.length → w.cell? ⟨b, off + i * 2, none⟩ = some (.int .i64 (iA l i)) ∧ w.cell? ⟨b, off + i * 2 + 1, none⟩ = some (.int .u64 (nA l i)) := by
  rcases h with rfl | h
  · simp at hl
  · exact h
theorem cell_below {w w' : World} {a : Addr} {v : Value} (hb : Below w.heap.size w w') (h : w.cell? a = some v) : w'.cell? a = some v := (hb.cell (World.block_lt_of_cell? w _ h)).trans h
theorem Ids.below {w w' : World} {a : Option Addr} {l : IdL} (h : Ids w a l) (hb : Below w.heap.size w w') : Ids w' a l := by
  rcases h with h | ⟨b, off, rfl, hc⟩
  · exact .inl h
  · exact .inr ⟨b, off, rfl, fun i hi => ⟨cell_below hb (hc i hi).1, cell_below hb (hc i hi).2⟩⟩

def BoxG (w : World) (I : Nat) (s n : Int) : Prop := w.heap[I]? = some (.cells #[.int .i64 s, .int .u64 n] 26 (0, 0))
theorem BoxG.c0 {w : World} {I : Nat} {s n : Int} (h : BoxG w I s n) : w.cell? ⟨I, 0, none⟩ = some (.int .i64 s) := by simp [World.cell?, show w.heap[I]? = _ from h]
theorem BoxG.c1 {w : World} {I : Nat} {s n : Int} (h : BoxG w I s n) : w.cell? ⟨I, 1, none⟩ = some (.int .u64 n) := by simp [World.cell?, show w.heap[I]? = _ from h]
def isIn (l : IdL) (m : Nat) (s n : Int) : Prop := ∃ k, k < m ∧ iA l k = s ∧ nA l k = n

theorem ranges_any (w : World) (H : Nat) (v : Value) (h : Hd w H v) : Calls Try.prog 10 #[.pointer (some ⟨H, 0, none⟩)] w fun e w' => e = .returned v ∧ w' = w := by
  have d := h.c0
  go_enter Try.func10, Try.ntmps10
  go_wp2
  go_ret
  exact ⟨rfl, rfl⟩

theorem bytes2_any (a b : Option Addr) (n c n1 c1 : Nat) (w : World) (hn : n ≤ 9223372036854775807) (hn1 : n1 ≤ 9223372036854775807) :
    Calls Try.prog 13 #[.slice a n c, .slice b n1 c1] w fun e w' => (∃ r, e = .returned (.bool r) ∧ (r = true → n + n1 ≤ 1048576)) ∧ w' = w := by
  by_cases h1 : n ≤ 1048576
  · by_cases h2 : n1 ≤ 1048576
    · by_cases h3 : n + n1 ≤ 1048576
      · go_enter Try.func13, Try.ntmps13
        go_wp2
        go_ret
        exact ⟨⟨true, rfl, fun _ => h3⟩, rfl⟩
      · go_enter Try.func13, Try.ntmps13
        go_wp2
        go_ret
        exact ⟨⟨false, rfl, fun h => by cases h⟩, rfl⟩
    · go_enter Try.func13, Try.ntmps13
      go_wp2
      go_ret
      exact ⟨⟨false, rfl, fun h => by cases h⟩, rfl⟩
  · go_enter Try.func13, Try.ntmps13
    go_wp2
    go_ret
    exact ⟨⟨false, rfl, fun h => by cases h⟩, rfl⟩

theorem bytes1_any (a : Option Addr) (n c : Nat) (w : World) (hn : n ≤ 9223372036854775807) :
    Calls Try.prog 5 #[.slice a n c] w fun e w' => (∃ r, e = .returned (.bool r) ∧ (r = true → n ≤ 1048576)) ∧ w' = w := by
  by_cases h1 : n ≤ 1048576
  · go_enter Try.func5, Try.ntmps5
    go_wp2
    go_ret
    exact ⟨⟨true, rfl, fun _ => h1⟩, rfl⟩
  · go_enter Try.func5, Try.ntmps5
    go_wp2
    go_ret
    exact ⟨⟨false, rfl, fun h => by cases h⟩, rfl⟩

set_option maxHeartbeats 1000000 in
/-- zzB1Has over the first m ids -/
theorem has_any (w : World) (a : Option Addr) (c m : Nat) (l : IdL) (s n : Int) (h : Ids w a l) (hm : m ≤ l.length) (hl : l.length ≤ 4096) :
    Calls Try.prog 14 #[.slice a m c, .agg #[.int .i64 s, .int .u64 n]] w fun e w' => (∃ b, e = .returned (.bool b) ∧ Hid (b = true ↔ isIn l m s n)) ∧ Below w.heap.size w w' := by
  go_enter Try.func14, Try.ntmps14
  go_wp2
  obtain ⟨w1, hw1⟩ : ∃ x, x = w.alloc (.cells #[.int .i64 s, .int .u64 n] 26) := ⟨_, rfl⟩
  have B1 : Below w.heap.size w w1 := by subst hw1; exact (Below.refl _ _).alloc (Nat.le_refl _) _
  have X1 : BoxG w1 w.heap.size s n := by subst hw1; exact heap_alloc_new w _
  have h1 := h.below B1
  have s1 := B1.size
  rw [← hw1]
  clear hw1
  go_loopw [5] (fun kv wr => ∃ k q : Nat, k ≤ m ∧ kv = .int .i64 (k : Int) ∧ Hid (¬ isIn l k s n) ∧ wr = w1.drewN q) (fun kv _ => m - (intOf kv).toNat)
  case atStart => exact ⟨0, 0, Nat.zero_le _, rfl, hide (fun ⟨k, hk, _⟩ => by omega), rfl⟩
  case round =>
    obtain ⟨k, q, hk, rfl, A, rfl⟩ := hrel
    by_cases hkm : k < m
    · obtain ⟨b, off, rfl, hc⟩ := h1.get (by omega)
      obtain ⟨c0, c1⟩ := hc k (by omega)
      obtain ⟨sv, hsv⟩ : ∃ x, x = iA l k := ⟨_, rfl⟩
      obtain ⟨nv, hnv⟩ : ∃ x, x = nA l k := ⟨_, rfl⟩
      rw [← hsv] at c0
      rw [← hnv] at c1
      have x0 := X1.c0
      have x1 := X1.c1
      have yes : Hid (sv = s → nv = n → isIn l m s n) := hide (fun a b => ⟨k, hkm, by rw [← hsv]; exact a, by rw [← hnv]; exact b⟩)
      have no : Hid (¬ (sv = s ∧ nv = n) → ¬ isIn l (k + 1) s n) := hide (fun hh ⟨j, hj, a, b⟩ => by
        by_cases hjk : j = k
        · subst hjk; exact hh ⟨by rw [hsv]; exact a, by rw [hnv]; exact b⟩
        · exact unhide A ⟨j, by omega, a, b⟩)
      clear hsv hnv hc
      by_cases q1 : sv = s
      · have e1 : (sv == s) = true := by simpa using q1
        have Q1 := hide q1
        clear q1
        by_cases q2 : nv = n
        · have e2 : (nv == n) = true := by simpa using q2
          have Q2 := hide q2
          clear q2
          go_wp2
          try go_quiet (fail)
          try go_wp2
          go_ret
          exact ⟨⟨true, rfl, hide ⟨fun _ => unhide yes (unhide Q1) (unhide Q2), fun _ => rfl⟩⟩, by first | exact below_drewN B1 _ | exact below_drewN (below_drewN B1 _) _⟩
        · have e2 : (nv == n) = false := by simpa using q2
          go_wp2
          try go_quiet (fail)
          try go_wp2
          go_roundw
          case rel => exact ⟨k + 1, _, by omega, by go_num, hide (unhide no (fun hh => q2 hh.2)), by first | rfl | exact drewN_drewN _ _ _⟩
          case measure => simp [intOf]; omega
      · have e1 : (sv == s) = false := by simpa using q1
        go_wp2
        try go_quiet (fail)
        try go_wp2
        go_roundw
        case rel => exact ⟨k + 1, _, by omega, by go_num, hide (unhide no (fun hh => q1 hh.1)), by first | rfl | exact drewN_drewN _ _ _⟩
        case measure => simp [intOf]; omega
    · obtain rfl : k = m := by omega
      go_wp2
      go_ret
      exact ⟨⟨false, rfl, hide ⟨(fun hh => by cases hh), fun hh => absurd hh (unhide A)⟩⟩, below_drewN B1 _⟩

theorem RSl.some_of {w : World} {base : Nat} {v : Value} {l : List Rg} (h : RSl w base v l) (hl : 0 < l.length) : ∃ G cap, v = .slice (some ⟨G, 0, none⟩) l.length cap ∧ RRow w base G cap l := by
  rcases h with ⟨_, rfl⟩ | h
  · simp at hl
  · exact h
theorem RSl.shape {w : World} {base : Nat} {v : Value} {l : List Rg} (h : RSl w base v l) : ∃ a c, v = .slice a l.length c := by
  rcases h with ⟨rfl, rfl⟩ | ⟨G, cap, rfl, _⟩
  · exact ⟨none, 0, rfl⟩
  · exact ⟨_, _, rfl⟩

set_option maxHeartbeats 1000000 in
/-- zzB1Same of one list in two places -/
theorem same_any (w : World) (base base' : Nat) (a b : Option Addr) (c d : Nat) (l : List Rg) (h : RSl w base (.slice a l.length c) l) (k : RSl w base' (.slice b l.length d) l) (hl : l.length ≤ 8192) :
    Calls Try.prog 15 #[.slice a l.length c, .slice b l.length d] w fun e w' => e = .returned (.bool true) ∧ Below w.heap.size w w' := by
  go_enter Try.func15, Try.ntmps15
  go_wp2
  go_loopw [5] (fun iv wr => ∃ i q : Nat, i ≤ l.length ∧ iv = .int .i64 (i : Int) ∧ wr = w.drewN q) (fun iv _ => l.length - (intOf iv).toNat)
  case atStart => exact ⟨0, 0, Nat.zero_le _, rfl, rfl⟩
  case round =>
    obtain ⟨i, q, hi, rfl, rfl⟩ := hrel
    by_cases hil : i < l.length
    · obtain ⟨G, cap, e1, R⟩ := h.some_of (by omega)
      obtain ⟨G', cap', e2, R'⟩ := k.some_of (by omega)
      simp only [Value.slice.injEq, true_and] at e1 e2
      obtain ⟨rfl, rfl⟩ := e1
      obtain ⟨rfl, rfl⟩ := e2
      obtain ⟨c0, c1, c2⟩ := R.cells hil
      obtain ⟨d0, d1, d2⟩ := R'.cells hil
      go_wp2
      try go_quiet (fail)
      try go_wp2
      go_roundw
      case rel => exact ⟨i + 1, _, by omega, by go_num, by first | rfl | exact drewN_drewN _ _ _⟩
      case measure => simp [intOf]; omega
    · go_wp2
      go_ret
      exact ⟨rfl, below_drewN (Below.refl _ _) _⟩
end Go.Proofs.Qxb6626309a
