import Derived.Test.Qxb6626309aSearch
import Derived.Deep.RegionHeld3
namespace Go.Proofs.Qxb6626309a
open Go.ChangeShapes Go.WideShapes Go.ChangeAt Go.RowKit
set_option linter.unusedVariables false
set_option linter.unusedSimpArgs false

theorem search_nil (w : World) (H : Nat) (s n : Int) (hH : Hd w H (.slice none 0 0)) :
    Calls Try.prog 19 #[.pointer (some ⟨H, 0, none⟩), .agg #[.int .i64 s, .int .u64 n]] w fun e w' => (∃ i : Nat, e = .returned (.int .i64 (i : Int)) ∧ Hid (Place [] s n i)) ∧ Below w.heap.size w w' := by
  go_enter Try.func19, Try.ntmps19
  go_wp2
  obtain ⟨w1, hw1⟩ : ∃ x, x = w.alloc (.cells #[.int .i64 s, .int .u64 n] 35) := ⟨_, rfl⟩
  have B1 : Below w.heap.size w w1 := by subst hw1; exact (Below.refl _ _).alloc (Nat.le_refl _) _
  rw [← hw1]
  clear hw1
  have d1 := (hH.below B1).c0
  go_quiet (fail)
  go_wp2
  go_loopw [5, 6] (fun lo hi wr => lo = .int .i64 0 ∧ hi = .int .i64 0 ∧ ∃ m, wr = w1.drewN m) (fun lo hi _ => 0)
  case atStart => exact ⟨rfl, rfl, _, rfl⟩
  case round =>
    obtain ⟨rfl, rfl, m, rfl⟩ := hrel
    go_wp2
    go_ret
    exact ⟨⟨0, rfl, hide ⟨Nat.le_refl _, fun k hk => by omega, fun k _ hk => by simp at hk⟩⟩, below_drewN B1 _⟩

/-- a Held that holds the list l -/
structure Held (w : World) (base H : Nat) (l : List Rg) : Prop where
  ex : ∃ v, Hd w H v ∧ RSl w base v l
  lt : H < base
  bs : base ≤ w.heap.size
  good : Good l
  len : l.length ≤ 8192
theorem Held.below {w w' : World} {base H : Nat} {l : List Rg} (h : Held w base H l) (hb : Below w.heap.size w w') : Held w' base H l := by
  obtain ⟨v, h1, h2⟩ := h.ex
  exact ⟨⟨v, h1.below hb, h2.below hb⟩, h.lt, Nat.le_trans h.bs hb.size, h.good, h.len⟩

theorem search_any (w : World) (base H : Nat) (l : List Rg) (s n : Int) (h : Held w base H l) :
    Calls Try.prog 19 #[.pointer (some ⟨H, 0, none⟩), .agg #[.int .i64 s, .int .u64 n]] w fun e w' => (∃ i : Nat, e = .returned (.int .i64 (i : Int)) ∧ Hid (Place l s n i)) ∧ Below w.heap.size w w' := by
  obtain ⟨v, h1, ⟨rfl, rfl⟩ | ⟨G, cap, rfl, R⟩⟩ := h.ex
  · exact search_nil w H s n h1
  · exact search_some w base H G cap l s n h1 R (hide h.good) h.len

theorem ret_bool {a b : Bool} (h : a = b) : Ending.returned (.bool a) = .returned (.bool b) := by rw [h]

set_option maxHeartbeats 4000000 in
theorem holds_any (w : World) (a b c s n : Int) :
    Calls Try.prog 20 #[.agg #[.int .i64 a, .int .u64 b, .int .u64 c], .agg #[.int .i64 s, .int .u64 n]] w fun e w' => e = .returned (.bool (decide (a = s ∧ b ≤ n ∧ n ≤ c))) ∧ Below w.heap.size w w' := by
  have Bw : Hid (∀ o1 o2, Below w.heap.size w ((w.alloc o1).alloc o2)) := hide (fun o1 o2 => ((Below.refl _ _).alloc (Nat.le_refl _) _).alloc (by simp) _)
  by_cases h1 : s = a
  · have e1 : (s == a) = true := by simpa using h1
    have E := hide h1
    clear h1
    by_cases h2 : b ≤ n
    · have e2 : decide (b ≤ n) = true := by simpa using h2
      go_enter Try.func20, Try.ntmps20
      go_wp2
      go_ret
      exact ⟨ret_bool (by simp [unhide E, h2]), unhide Bw _ _⟩
    · have e2 : decide (b ≤ n) = false := by simpa using h2
      go_enter Try.func20, Try.ntmps20
      go_wp2
      go_ret
      exact ⟨ret_bool (by simp [h2]), unhide Bw _ _⟩
  · have e1 : (s == a) = false := by simpa using h1
    go_enter Try.func20, Try.ntmps20
    go_wp2
    go_ret
    exact ⟨ret_bool (by simp [Ne.symm h1]), unhide Bw _ _⟩

set_option maxHeartbeats 1000000 in
theorem Holds_any (w : World) (base H : Nat) (l : List Rg) (s n : Int) (h : Held w base H l) :
    Calls Try.prog 16 #[.pointer (some ⟨H, 0, none⟩), .agg #[.int .i64 s, .int .u64 n]] w fun e w' => (∃ b, e = .returned (.bool b) ∧ Hid (b = true ↔ Mem l s n)) ∧ Below w.heap.size w w' := by
  go_enter Try.func16, Try.ntmps16
  go_wp2_with fail
  obtain ⟨w1, hw1⟩ : ∃ x, x = w.alloc (.cells #[.int .i64 s, .int .u64 n] 35) := ⟨_, rfl⟩
  have B1 : Below w.heap.size w w1 := by subst hw1; exact (Below.refl _ _).alloc (Nat.le_refl _) _
  have X1 : Box2 w1 w.heap.size s n := by subst hw1; exact heap_alloc_new w _
  have h1 := h.below B1
  rw [← hw1]
  clear hw1
  refine (search_any w1 base H l s n h1).mono ?_
  rintro e w2 ⟨⟨i, rfl, P⟩, B12⟩
  have s1 := B1.size
  have B2 := below_step B1 s1 B12
  have X2 := X1.below B12
  have h2 := h1.below B12
  clear B12 X1 h1 B1
  have hl := h.len
  have pm := hide (place_mem h.good (unhide P))
  obtain ⟨v, hd, hr⟩ := h2.ex
  have d0 := hd.c0
  have x0 := X2.c0
  have x1 := X2.c1
  have il := (unhide P).le
  have s2 := B2.size
  by_cases hi : i < l.length
  · have e1 : decide ((i : Int) < (l.length : Int)) = true := by simpa using hi
    rcases hr with ⟨_, rfl⟩ | ⟨G, cap, rfl, R⟩
    · simp at hi
    obtain ⟨c0, c1, c2⟩ := R.cells hi
    obtain ⟨sv, hsv⟩ : ∃ x, x = sR l i := ⟨_, rfl⟩
    obtain ⟨fv, hfv⟩ : ∃ x, x = fR l i := ⟨_, rfl⟩
    obtain ⟨lv, hlv⟩ : ∃ x, x = lR l i := ⟨_, rfl⟩
    have key : Hid (decide (sv = s ∧ fv ≤ n ∧ n ≤ lv) = true ↔ Mem l s n) := hide (by
      rw [unhide pm, hsv, hfv, hlv, decide_eq_true_eq]
      exact ⟨fun h => ⟨hi, h⟩, fun h => h.2⟩)
    rw [← hsv] at c0
    rw [← hfv] at c1
    rw [← hlv] at c2
    have CC : Hid (∀ w', Below w2.heap.size w2 w' → w'.cell? ⟨H, 0, none⟩ = some (.slice (some ⟨G, 0, none⟩) l.length cap) ∧ w'.cell? ⟨G, i * 3, none⟩ = some (.int .i64 sv) ∧ w'.cell? ⟨G, i * 3 + 1, none⟩ = some (.int .u64 fv) ∧ w'.cell? ⟨G, i * 3 + 2, none⟩ = some (.int .u64 lv) ∧ w'.cell? ⟨w.heap.size, 0, none⟩ = some (.int .i64 s) ∧ w'.cell? ⟨w.heap.size, 1, none⟩ = some (.int .u64 n)) := hide (fun w' hb => by
      obtain ⟨a0, a1, a2⟩ := (R.below hb).cells hi
      rw [← hsv] at a0
      rw [← hfv] at a1
      rw [← hlv] at a2
      exact ⟨(hd.below hb).c0, a0, a1, a2, (X2.below hb).c0, (X2.below hb).c1⟩)
    clear hsv hfv hlv pm
    go_wp2_with fail
    go_region_held3 (fun w' => w'.cell? ⟨H, 0, none⟩ = some (.slice (some ⟨G, 0, none⟩) l.length cap) ∧ w'.cell? ⟨G, i * 3, none⟩ = some (.int .i64 sv) ∧ w'.cell? ⟨G, i * 3 + 1, none⟩ = some (.int .u64 fv) ∧ w'.cell? ⟨G, i * 3 + 2, none⟩ = some (.int .u64 lv) ∧ w'.cell? ⟨w.heap.size, 0, none⟩ = some (.int .i64 s) ∧ w'.cell? ⟨w.heap.size, 1, none⟩ = some (.int .u64 n)) (go_keep) ((go_at_call 20; refine (holds_any _ _ _ _ _ _).mono ?_; rintro e w3 ⟨rfl, B3⟩; have B3' := below_step (B2.drew) s2 B3; obtain ⟨y0, y1, y2, y3, y4, y5⟩ := unhide CC w3 ((Below.refl _ _).drew.trans B3)))
    go_wp2
    go_ret
    exact ⟨⟨_, ret_bool (by simp), key⟩, B3'⟩
  · have e1 : decide ((i : Int) < (l.length : Int)) = false := by simpa using hi
    have key : Hid (false = true ↔ Mem l s n) := hide (by rw [unhide pm]; simp; omega)
    rcases hr with ⟨rfl, rfl⟩ | ⟨G, cap, rfl, R⟩
    · obtain rfl : i = 0 := by simpa using il
      go_wp2_with fail
      go_region
      go_wp2
      go_ret
      exact ⟨⟨false, ret_bool (by simp), key⟩, B2.drew⟩
    · go_wp2_with fail
      go_region
      go_wp2
      go_ret
      exact ⟨⟨false, ret_bool (by simp), key⟩, B2.drew⟩
end Go.Proofs.Qxb6626309a
