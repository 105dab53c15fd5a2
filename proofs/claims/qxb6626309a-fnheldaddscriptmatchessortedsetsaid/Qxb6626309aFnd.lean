import Derived.Test.Qxb6626309aMdl
namespace Go.Proofs.Qxb6626309a
open Go.ChangeShapes Go.WideShapes Go.ChangeAt Go.RowKit
set_option linter.unusedVariables false
set_option linter.unusedSimpArgs false

set_option maxHeartbeats 1000000 in
theorem less_any (w : World) (a b c d : Int) :
    Calls Try.prog 17 #[.agg #[.int .i64 a, .int .u64 b], .agg #[.int .i64 c, .int .u64 d]] w fun e w' => (∃ r, e = .returned (.bool r) ∧ Hid (r = true ↔ ltI a b c d)) ∧ Below w.heap.size w w' := by
  have Bw : Hid (∀ o1 o2, Below w.heap.size w ((w.alloc o1).alloc o2)) := hide (fun o1 o2 => ((Below.refl _ _).alloc (Nat.le_refl _) _).alloc (by simp) _)
  by_cases h1 : a = c
  · have e1 : (a == c) = true := by simpa using h1
    have E := hide h1
    clear h1
    go_enter Try.func17, Try.ntmps17
    go_wp2
    go_ret
    exact ⟨⟨_, rfl, hide (by have := unhide E; unfold ltI; simp; omega)⟩, unhide Bw _ _⟩
  · have e1 : (a == c) = false := by simpa using h1
    go_enter Try.func17, Try.ntmps17
    go_wp2
    go_ret
    exact ⟨⟨_, rfl, hide (by unfold ltI; simp; omega)⟩, unhide Bw _ _⟩

theorem BoxG.below {w w' : World} {I : Nat} {s n : Int} (h : BoxG w I s n) (hb : Below w.heap.size w w') : BoxG w' I s n := (hb.block I (by
  rcases Nat.lt_or_ge I w.heap.size with h1 | h1
  · exact h1
  · have h2 : w.heap[I]? = _ := h
    rw [Array.getElem?_eq_none h1] at h2; cases h2)).trans h

def FindRes (m : IdL) (s n : Int) (e : Ending) : Prop := ∃ (i : Nat) (b : Bool), e = .returned (.tuple #[.int .i64 (i : Int), .bool b]) ∧ Hid (FindAt m s n i b)
theorem FindRes.mk {m : IdL} {s n : Int} {e : Ending} (i : Nat) (b : Bool) (h : e = .returned (.tuple #[.int .i64 (i : Int), .bool b])) (f : Hid (FindAt m s n i b)) : FindRes m s n e := ⟨i, b, h, f⟩

set_option maxHeartbeats 1000000 in
theorem find_any (w : World) (a : Option Addr) (c : Nat) (m : IdL) (s n : Int) (h : Ids w a m) (g : Hid (Srt m)) (hl : m.length ≤ 4096) :
    Calls Try.prog 6 #[.slice a m.length c, .agg #[.int .i64 s, .int .u64 n]] w fun e w' => FindRes m s n e ∧ Below w.heap.size w w' := by
  go_enter Try.func6, Try.ntmps6
  go_wp2
  obtain ⟨w1, hw1⟩ : ∃ x, x = w.alloc (.cells #[.int .i64 s, .int .u64 n] 26) := ⟨_, rfl⟩
  have B1 : Below w.heap.size w w1 := by subst hw1; exact (Below.refl _ _).alloc (Nat.le_refl _) _
  have X1 : BoxG w1 w.heap.size s n := by subst hw1; exact heap_alloc_new w _
  have h1 := h.below B1
  have s1 := B1.size
  rw [← hw1]
  clear hw1
  go_loopw [6] (fun kv wr => ∃ k : Nat, k ≤ m.length ∧ kv = .int .i64 (k : Int) ∧ Hid (∀ j, j < k → ltI (iA m j) (nA m j) s n) ∧ Below w1.heap.size w1 wr) (fun kv _ => m.length - (intOf kv).toNat)
  case atStart => exact ⟨0, Nat.zero_le _, rfl, hide (fun j hj => by omega), Below.refl _ _⟩
  case round =>
    obtain ⟨k, hk, rfl, A, B2⟩ := hrel
    obtain ⟨w2, hw2⟩ : ∃ x, x = wr := ⟨_, rfl⟩
    subst hw2
    have B3 := below_step B1 s1 B2
    by_cases hkm : k < m.length
    · obtain ⟨b, off, rfl, hc⟩ := (h1.below B2).get (by omega)
      obtain ⟨c0, c1⟩ := hc k (by omega)
      obtain ⟨sv, hsv⟩ : ∃ x, x = iA m k := ⟨_, rfl⟩
      obtain ⟨nv, hnv⟩ : ∃ x, x = nA m k := ⟨_, rfl⟩
      rw [← hsv] at c0
      rw [← hnv] at c1
      have X2 := X1.below B2
      have x0 := X2.c0
      have x1 := X2.c1
      have yes : Hid (sv = s → nv = n → FindAt m s n k true) := hide (fun a b => ⟨hk, unhide A, fun _ => ⟨hkm, by rw [← hsv]; exact a, by rw [← hnv]; exact b⟩, fun h => by cases h⟩)
      have no : Hid (ltI s n sv nv → FindAt m s n k false) := hide (fun hh => ⟨hk, unhide A, fun h => (by cases h), fun _ j h1 h2 => by
        by_cases hjk : j = k
        · subst hjk; rw [← hsv, ← hnv]; exact hh
        · have := unhide g k j (by omega) h2
          rw [← hsv, ← hnv] at this
          unfold ltI at *
          omega⟩)
      have on : Hid (¬ (sv = s ∧ nv = n) → ¬ ltI s n sv nv → ∀ j, j < k + 1 → ltI (iA m j) (nA m j) s n) := hide (fun h1 h2 j hj => by
        by_cases hjk : j = k
        · subst hjk; rw [← hsv, ← hnv]; unfold ltI at *; omega
        · exact unhide A j (by omega))
      have s2 := B3.size
      clear hsv hnv hc
      by_cases q1 : sv = s
      · have e1 : (sv == s) = true := by simpa using q1
        have Q1 := hide q1
        clear q1
        by_cases q2 : nv = n
        · have e2 : (nv == n) = true := by simpa using q2
          have Q2 := hide q2
          clear q2
          go_wp2
          try go_quiet (fail)
          try go_wp2
          go_ret2
          exact ⟨.mk k true rfl (hide (unhide yes (unhide Q1) (unhide Q2))), by first | exact below_drewN B3 _ | exact below_drewN (below_drewN B3 _) _⟩
        · have e2 : (nv == n) = false := by simpa using q2
          go_wp2
          go_quiet (fail)
          go_wp2
          have B3q := below_drewN B3 nq
          have B2q := below_drewN B2 nq
          go_region_with ((go_at_call 17; refine (less_any _ _ _ _ _).mono ?_; rintro e w3 ⟨⟨bb, rfl, hbb⟩, B4⟩))
          all_goals
            have B5 : Below w1.heap.size w1 w3 := below_step B2q.drew (by simpa using B2.size) B4
            have B6 : Below w.heap.size w w3 := below_step B1 s1 B5
            cases bb with
            | true =>
              go_wp2
              go_ret2
              exact ⟨.mk k false rfl (hide (unhide no ((unhide hbb).1 (by first | trivial | rfl)))), B6⟩
            | false =>
              go_wp2
              go_roundw
              case rel => exact ⟨k + 1, by omega, by go_num, hide (unhide on (fun hh => q2 hh.2) (fun hh => by have := (unhide hbb).2 hh; cases this)), B5⟩
              case measure => simp [intOf]; omega
      · have e1 : (sv == s) = false := by simpa using q1
        go_wp2
        go_quiet (fail)
        go_wp2
        have B3q := below_drewN B3 nq
        have B2q := below_drewN B2 nq
        go_region_with ((go_at_call 17; refine (less_any _ _ _ _ _).mono ?_; rintro e w3 ⟨⟨bb, rfl, hbb⟩, B4⟩))
        all_goals
          have B5 : Below w1.heap.size w1 w3 := below_step B2q.drew (by simpa using B2.size) B4
          have B6 : Below w.heap.size w w3 := below_step B1 s1 B5
          cases bb with
          | true =>
            go_wp2
            go_ret2
            exact ⟨.mk k false rfl (hide (unhide no ((unhide hbb).1 (by first | trivial | rfl)))), B6⟩
          | false =>
            go_wp2
            go_roundw
            case rel => exact ⟨k + 1, by omega, by go_num, hide (unhide on (fun hh => q1 hh.1) (fun hh => by have := (unhide hbb).2 hh; cases this)), B5⟩
            case measure => simp [intOf]; omega
    · obtain rfl : k = m.length := by omega
      go_wp2
      go_ret2
      exact ⟨.mk m.length false rfl (hide ⟨Nat.le_refl _, unhide A, fun hh => (by cases hh), fun _ j h1 h2 => by omega⟩), B3⟩
end Go.Proofs.Qxb6626309a
