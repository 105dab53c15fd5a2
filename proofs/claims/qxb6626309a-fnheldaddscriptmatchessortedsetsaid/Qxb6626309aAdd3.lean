import Derived.Test.Qxb6626309aAdd2
namespace Go.Proofs.Qxb6626309a
open Go.ChangeShapes Go.WideShapes Go.ChangeAt Go.RowKit
set_option linter.unusedVariables false
set_option linter.unusedSimpArgs false

theorem addRange_any (w : World) (base H : Nat) (l : List Rg) (s n : Int) (h : Held w base H l) (hl : l.length < 8192) (h1 : 1 ≤ n) (h2 : n ≤ 18446744073709551615) :
    Calls Try.prog 18 #[.pointer (some ⟨H, 0, none⟩), .agg #[.int .i64 s, .int .u64 n, .int .u64 n]] w fun e w' => e = .returned (.tuple #[]) ∧ ∃ l', Held w' base H l' ∧ (l'.length ≤ l.length + 1) ∧ (∀ a b, Mem l' a b ↔ Mem l a b ∨ (a = s ∧ b = n)) ∧ Below H w w' := by
  obtain ⟨v, hd, ⟨rfl, rfl⟩ | ⟨G, cap, rfl, R⟩⟩ := h.ex
  · exact addRange_nil w base H s n h hd h1 h2
  · exact addRange_some w base H G cap l s n h hd R hl h1 h2

set_option maxHeartbeats 1000000 in
/-- Add: it answers whether the id was lacking; behind it the Held holds it too -/
theorem add_any (w : World) (base H : Nat) (l : List Rg) (s n : Int) (h : Held w base H l) (hl : l.length < 8192) (h1 : 1 ≤ n) (h2 : n ≤ 18446744073709551615) :
    Calls Try.prog 7 #[.pointer (some ⟨H, 0, none⟩), .agg #[.int .i64 s, .int .u64 n]] w fun e w' => ∃ b, e = .returned (.bool b) ∧ Hid (b = true ↔ ¬ Mem l s n) ∧ ∃ l', Held w' base H l' ∧ (l'.length ≤ l.length + 1) ∧ Hid (∀ x y, Mem l' x y ↔ Mem l x y ∨ (x = s ∧ y = n)) ∧ Below H w w' := by
  have hlt : H < w.heap.size := Nat.lt_of_lt_of_le h.lt h.bs
  go_enter Try.func7, Try.ntmps7
  go_wp2_with fail
  obtain ⟨w1, hw1⟩ : ∃ x, x = w.alloc (.cells #[.int .i64 s, .int .u64 n] 35) := ⟨_, rfl⟩
  have B1 : Below w.heap.size w w1 := by subst hw1; exact (Below.refl _ _).alloc (Nat.le_refl _) _
  have X1 : Box2 w1 w.heap.size s n := by subst hw1; exact heap_alloc_new w _
  have H1 := h.below B1
  have s1 := B1.size
  rw [← hw1]
  clear hw1
  refine (Holds_any w1 base H l s n H1).mono ?_
  rintro e w2 ⟨⟨b, rfl, hb⟩, B12⟩
  have B2 := below_step B1 s1 B12
  have X2 := X1.below B12
  have H2 := H1.below B12
  have s2 := B2.size
  clear B12 X1 H1 B1
  cases b with
  | true =>
    have hm := (unhide hb).1 rfl
    go_wp2
    go_ret
    refine ⟨false, rfl, hide ?_, l, H2, Nat.le_succ _, hide ?_, B2.mono (by omega)⟩
    · simp [hm]
    · intro x y
      constructor
      · exact .inl
      · rintro (h' | ⟨rfl, rfl⟩)
        · exact h'
        · exact hm
  | false =>
    have hm : Hid (¬ Mem l s n) := hide (fun hh => by have := (unhide hb).2 hh; cases this)
    have x0 := X2.c0
    have x1 := X2.c1
    go_wp2_with fail
    refine (addRange_any w2 base H l s n H2 hl h1 h2).mono ?_
    rintro e w3 ⟨rfl, l', H3, hl3, hm3, B3⟩
    have HM := hide hm3
    clear hm3
    go_wp2
    go_ret
    exact ⟨true, rfl, hide ⟨fun _ => unhide hm, fun _ => rfl⟩, l', H3, hl3, HM, (B2.mono (by omega)).trans B3⟩
end Go.Proofs.Qxb6626309a
