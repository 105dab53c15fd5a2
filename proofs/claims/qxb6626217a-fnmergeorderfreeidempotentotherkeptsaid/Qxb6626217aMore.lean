import Derived.Test.Qxb6626217aParts
namespace Go.Proofs.Qxb6626217a
open Go.ChangeShapes Go.WideShapes Go.ChangeAt Go.RowKit
set_option linter.unusedVariables false
set_option linter.unusedSimpArgs false

theorem bytes2_any (a0 : Option Addr) (n0 c0 : Nat) (a1 : Option Addr) (n1 c1 : Nat) (a2 : Option Addr) (n2 c2 : Nat) (a3 : Option Addr) (n3 c3 : Nat) (w : World) (h0 : n0 ≤ 9223372036854775807) (h1 : n1 ≤ 9223372036854775807) (h2 : n2 ≤ 9223372036854775807) (h3 : n3 ≤ 9223372036854775807) :
    Calls Try.prog 12 #[.slice a0 n0 c0, .slice a1 n1 c1, .slice a2 n2 c2, .slice a3 n3 c3] w fun e w' => (∃ b, e = .returned (.bool b)) ∧ w' = w := by
  go_enter Try.func12, Try.ntmps12
  go_wp2
  all_goals go_ret
  all_goals exact ⟨⟨_, rfl⟩, rfl⟩

theorem same_true (base g cap : Nat) (m : Ms) (a1 : Option Addr) (c1 : Nat) (l : List Int) (a2 : Option Addr) (c2 : Nat) (t : List Int) (w : World) (hl : l.length ≤ 1048576) (e : t.length = l.length) (em : m = msgs l t)
    (hR : Row w base g cap m) (h1 : Ints w a1 l) (h2 : Ints w a2 t) :
    Calls Try.prog 13 #[.slice (some ⟨g, 0, none⟩) l.length cap, .slice a1 l.length c1, .slice a2 l.length c2] w fun e w' => e = .returned (.bool true) ∧ ∃ n, w' = w.drewN n := by
  subst em
  have E : Hid (t.length = l.length) := e
  have em := hide (msgs_length l t e)
  clear e
  go_enter Try.func13, Try.ntmps13
  go_wp2
  go_loopw [7] (fun i wr => ∃ k n : Nat, k ≤ l.length ∧ i = .int .i64 k ∧ wr = w.drewN n) (fun i _ => l.length - (intOf i).toNat)
  case atStart => exact ⟨0, 0, Nat.zero_le _, rfl, rfl⟩
  case round =>
    obtain ⟨k, n, hk, rfl, rfl⟩ := hrel
    by_cases hkl : k < l.length
    · obtain ⟨b1, o1, rfl, hc1⟩ := h1.get (by omega)
      obtain ⟨b2, o2, rfl, hc2⟩ := h2.get (by have := E.out; omega)
      have d1 := hc1 k hkl
      have d2 := hc2 k (by have := E.out; omega)
      have d3 := hR.cell0 (i := k) (by have := em.out; omega)
      have d4 := hR.cell1 (i := k) (by have := em.out; omega)
      rw [sA_msgs _ _ E.out _ hkl] at d3
      rw [tA_msgs _ _ E.out _ hkl] at d4
      clear hc1 hc2
      go_wp2
      go_quiet (fail)
      go_wp2
      go_roundw
      case rel => exact ⟨k + 1, _, by omega, by go_num, rfl⟩
      case measure => simp [intOf]; omega
    · go_wp2
      go_ret
      exact ⟨rfl, _, rfl⟩

theorem eq_true (base g cap : Nat) (m : Ms) (base' g' cap' : Nat) (w : World) (hl : m.length ≤ 1048576) (hR : Row w base g cap m) (hR' : Row w base' g' cap' m) :
    Calls Try.prog 14 #[.slice (some ⟨g, 0, none⟩) m.length cap, .slice (some ⟨g', 0, none⟩) m.length cap'] w fun e w' => e = .returned (.bool true) ∧ ∃ n, w' = w.drewN n := by
  go_enter Try.func14, Try.ntmps14
  go_wp2
  go_loopw [5] (fun i wr => ∃ k n : Nat, k ≤ m.length ∧ i = .int .i64 k ∧ wr = w.drewN n) (fun i _ => m.length - (intOf i).toNat)
  case atStart => exact ⟨0, 0, Nat.zero_le _, rfl, rfl⟩
  case round =>
    obtain ⟨k, n, hk, rfl, rfl⟩ := hrel
    by_cases hkl : k < m.length
    · have d1 := hR.cell0 hkl
      have d2 := hR.cell1 hkl
      have d3 := hR'.cell0 hkl
      have d4 := hR'.cell1 hkl
      go_wp2
      go_quiet (fail)
      go_wp2
      go_roundw
      case rel => exact ⟨k + 1, _, by omega, by go_num, rfl⟩
      case measure => simp [intOf]; omega
    · go_wp2
      go_ret
      exact ⟨rfl, _, rfl⟩

/-! the count of the distinct senders -/
structure Cnt (a b : List Int) (r : Ms) (i j n : Nat) : Prop where
  ina : ∀ x, i ≤ x → x < a.length → ∃ p, n ≤ p ∧ p < r.length ∧ sA r p = at0 a x
  inb : ∀ x, j ≤ x → x < b.length → ∃ p, n ≤ p ∧ p < r.length ∧ sA r p = at0 b x
  out : ∀ p, n ≤ p → p < r.length → (∃ x, i ≤ x ∧ x < a.length ∧ sA r p = at0 a x) ∨ (∃ x, j ≤ x ∧ x < b.length ∧ sA r p = at0 b x)

theorem Cnt.swap {a b : List Int} {r : Ms} {i j n : Nat} (h : Cnt a b r i j n) : Cnt b a r j i n :=
  ⟨h.inb, h.ina, fun p h1 h2 => (h.out p h1 h2).symm⟩

theorem Cnt.left {a b : List Int} {r : Ms} {i j n : Nat} (h : Cnt a b r i j n) (Aa : Asc a) (Ab : Asc b) (Ar : SAsc r) (hi : i < a.length) (hj : b.length ≤ j ∨ at0 a i < at0 b j) : n < r.length ∧ Cnt a b r (i + 1) j (n + 1) := by
  obtain ⟨p, hp, hpr, e⟩ := h.ina i (Nat.le_refl _) hi
  have geb : ∀ x, j ≤ x → x < b.length → at0 a i < at0 b x := by
    intro x hx hxb
    have h1 : at0 a i < at0 b j := by omega
    by_cases e : x = j
    · subst e; exact h1
    · have := asc_lt Ab (i := j) (j := x) (by omega) hxb; omega
  have gea : ∀ x, i ≤ x → x < a.length → at0 a i ≤ at0 a x := by
    intro x hx hxa
    by_cases e : x = i
    · subst e; omega
    · have := asc_lt Aa (i := i) (j := x) (by omega) hxa; omega
  have hpn : p = n := by
    rcases Nat.lt_or_ge n p with h1 | h1
    · have h2 := Ar n p h1 hpr
      rcases h.out n (Nat.le_refl _) (by omega) with ⟨x, hx, hxa, e2⟩ | ⟨x, hx, hxb, e2⟩
      · have := gea x hx hxa; omega
      · have := geb x hx hxb; omega
    · omega
  subst hpn
  refine ⟨hpr, ⟨?_, ?_, ?_⟩⟩
  · intro x hx hxa
    obtain ⟨q, hq, hqr, e2⟩ := h.ina x (by omega) hxa
    have h3 := asc_lt Aa (i := i) (j := x) (by omega) hxa
    have hne : q ≠ p := by intro e; subst e; omega
    exact ⟨q, by omega, hqr, e2⟩
  · intro x hx hxb
    obtain ⟨q, hq, hqr, e2⟩ := h.inb x hx hxb
    have h3 := geb x hx hxb
    have hne : q ≠ p := by intro e; subst e; omega
    exact ⟨q, by omega, hqr, e2⟩
  · intro q hq hqr
    have h3 := Ar p q (by omega) hqr
    rcases h.out q (by omega) hqr with ⟨x, hx, hxa, e2⟩ | ⟨x, hx, hxb, e2⟩
    · have hne : x ≠ i := by intro e; subst e; omega
      exact .inl ⟨x, by omega, hxa, e2⟩
    · exact .inr ⟨x, hx, hxb, e2⟩

theorem Cnt.both {a b : List Int} {r : Ms} {i j n : Nat} (h : Cnt a b r i j n) (Aa : Asc a) (Ab : Asc b) (Ar : SAsc r) (hi : i < a.length) (hj : j < b.length) (hij : at0 a i = at0 b j) : n < r.length ∧ Cnt a b r (i + 1) (j + 1) (n + 1) := by
  obtain ⟨p, hp, hpr, e⟩ := h.ina i (Nat.le_refl _) hi
  have geb : ∀ x, j ≤ x → x < b.length → at0 b j ≤ at0 b x := by
    intro x hx hxb
    by_cases e : x = j
    · subst e; omega
    · have := asc_lt Ab (i := j) (j := x) (by omega) hxb; omega
  have gea : ∀ x, i ≤ x → x < a.length → at0 a i ≤ at0 a x := by
    intro x hx hxa
    by_cases e : x = i
    · subst e; omega
    · have := asc_lt Aa (i := i) (j := x) (by omega) hxa; omega
  have hpn : p = n := by
    rcases Nat.lt_or_ge n p with h1 | h1
    · have h2 := Ar n p h1 hpr
      rcases h.out n (Nat.le_refl _) (by omega) with ⟨x, hx, hxa, e2⟩ | ⟨x, hx, hxb, e2⟩
      · have := gea x hx hxa; omega
      · have := geb x hx hxb; omega
    · omega
  subst hpn
  refine ⟨hpr, ⟨?_, ?_, ?_⟩⟩
  · intro x hx hxa
    obtain ⟨q, hq, hqr, e2⟩ := h.ina x (by omega) hxa
    have h3 := asc_lt Aa (i := i) (j := x) (by omega) hxa
    have hne : q ≠ p := by intro e; subst e; omega
    exact ⟨q, by omega, hqr, e2⟩
  · intro x hx hxb
    obtain ⟨q, hq, hqr, e2⟩ := h.inb x (by omega) hxb
    have h3 := asc_lt Ab (i := j) (j := x) (by omega) hxb
    have hne : q ≠ p := by intro e; subst e; omega
    exact ⟨q, by omega, hqr, e2⟩
  · intro q hq hqr
    have h3 := Ar p q (by omega) hqr
    rcases h.out q (by omega) hqr with ⟨x, hx, hxa, e2⟩ | ⟨x, hx, hxb, e2⟩
    · have hne : x ≠ i := by intro e; subst e; omega
      exact .inl ⟨x, by omega, hxa, e2⟩
    · have hne : x ≠ j := by intro e; subst e; omega
      exact .inr ⟨x, by omega, hxb, e2⟩

theorem Cnt.right {a b : List Int} {r : Ms} {i j n : Nat} (h : Cnt a b r i j n) (Aa : Asc a) (Ab : Asc b) (Ar : SAsc r) (hj : j < b.length) (hi : a.length ≤ i ∨ at0 b j < at0 a i) : n < r.length ∧ Cnt a b r i (j + 1) (n + 1) :=
  have := h.swap.left Ab Aa Ar hj hi
  ⟨this.1, this.2.swap⟩

theorem Cnt.done {a b : List Int} {r : Ms} {i j n : Nat} (h : Cnt a b r i j n) (hi : a.length ≤ i) (hj : b.length ≤ j) : r.length ≤ n := by
  rcases Nat.lt_or_ge n r.length with h1 | h1
  · rcases h.out n (Nat.le_refl _) h1 with ⟨x, _, _, _⟩ | ⟨x, _, _, _⟩ <;> omega
  · exact h1

set_option maxRecDepth 100000 in
set_option maxHeartbeats 1000000 in
theorem count_any (a0 : Option Addr) (c0 : Nat) (a : List Int) (a1 : Option Addr) (c1 : Nat) (b : List Int) (r : Ms) (w : World) (la : a.length ≤ 1048576) (lb : b.length ≤ 1048576) (lr : r.length ≤ 4194304)
    (h0 : Ints w a0 a) (h1 : Ints w a1 b) (Aa : Asc a) (Ab : Asc b) (Ar : SAsc r) (hC : Cnt a b r 0 0 0) :
    Calls Try.prog 15 #[.slice a0 a.length c0, .slice a1 b.length c1] w fun e w' => e = .returned (.int .i64 r.length) ∧ ∃ n, w' = w.drewN n := by
  go_enter Try.func15, Try.ntmps15
  go_wp2
  go_loopw [5, 6, 7] (fun x y z wr => ∃ i j n d : Nat, x = .int .i64 i ∧ y = .int .i64 j ∧ z = .int .i64 n ∧ i ≤ a.length ∧ j ≤ b.length ∧ n ≤ r.length ∧ Cnt a b r i j n ∧ wr = w.drewN d) (fun x y _ _ => (a.length - (intOf x).toNat) + (b.length - (intOf y).toNat))
  case atStart => exact ⟨0, 0, 0, 0, rfl, rfl, rfl, Nat.zero_le _, Nat.zero_le _, Nat.zero_le _, hC, rfl⟩
  case round =>
    clear hC
    obtain ⟨i, j, n, d, rfl, rfl, rfl, hi, hj, hn, C, rfl⟩ := hrel
    by_cases hia : i < a.length
    · obtain ⟨p0, o0, rfl, hc0⟩ := h0.get (by omega)
      have d0 := hc0 i hia
      clear hc0
      by_cases hjb : j < b.length
      · obtain ⟨p1, o1, rfl, hc1⟩ := h1.get (by omega)
        have d1 := hc1 j hjb
        clear hc1
        rcases Int.lt_trichotomy (at0 a i) (at0 b j) with hc | hc | hc
        · obtain ⟨hn2, C2⟩ := C.left Aa Ab Ar hia (.inr hc)
          clear C
          go_wp2
          go_quiet (fail)
          go_wp2
          go_roundw
          case rel => exact ⟨i + 1, j, n + 1, _, by go_num, rfl, by go_num, by omega, by omega, by omega, C2, rfl⟩
          case measure => simp [intOf]; omega
        · obtain ⟨hn2, C2⟩ := C.both Aa Ab Ar hia hjb hc
          clear C
          have n1 : ¬ at0 a i < at0 b j := by omega
          have n2 : ¬ at0 b j < at0 a i := by omega
          clear hc
          go_wp2
          go_quiet (fail)
          go_wp2
          go_quiet (fail)
          go_wp2
          go_roundw
          case rel => exact ⟨i + 1, j + 1, n + 1, _, by go_num, by go_num, by go_num, by omega, by omega, by omega, C2, rfl⟩
          case measure => simp [intOf]; omega
        · obtain ⟨hn2, C2⟩ := C.right Aa Ab Ar hjb (.inr hc)
          clear C
          have n1 : ¬ at0 a i < at0 b j := by omega
          go_wp2
          go_quiet (fail)
          go_wp2
          go_quiet (fail)
          go_wp2
          go_roundw
          case rel => exact ⟨i, j + 1, n + 1, _, rfl, by go_num, by go_num, by omega, by omega, by omega, C2, rfl⟩
          case measure => simp [intOf]; omega
      · obtain ⟨hn2, C2⟩ := C.left Aa Ab Ar hia (.inl (by omega))
        clear C
        have hd : decide (b.length ≤ j) = true := decide_eq_true (by omega)
        go_wp2
        go_quiet (fail)
        go_wp2
        go_roundw
        case rel => exact ⟨i + 1, j, n + 1, _, by go_num, rfl, by go_num, by omega, by omega, by omega, C2, rfl⟩
        case measure => simp [intOf]; omega
    · by_cases hjb : j < b.length
      · obtain ⟨p1, o1, rfl, hc1⟩ := h1.get (by omega)
        have d1 := hc1 j hjb
        clear hc1
        obtain ⟨hn2, C2⟩ := C.right Aa Ab Ar hjb (.inl (by omega))
        clear C
        have hd : decide (a.length ≤ i) = true := decide_eq_true (by omega)
        have hd2 : decide (i < a.length) = false := decide_eq_false (by omega)
        have hd3 : decide ((i : Int) < (a.length : Int)) = false := decide_eq_false (by omega)
        have hd4 : decide (b.length ≤ j) = false := decide_eq_false (by omega)
        have hd5 : decide ((a.length : Int) ≤ (i : Int)) = true := decide_eq_true (by omega)
        go_wp2
        go_quiet (fail)
        go_wp2
        go_quiet (fail)
        go_wp2
        go_roundw
        case rel => exact ⟨i, j + 1, n + 1, _, rfl, by go_num, by go_num, by omega, by omega, by omega, C2, rfl⟩
        case measure => simp [intOf]; omega
      · have hdn := C.done (by omega) (by omega)
        have hd3 : decide ((i : Int) < (a.length : Int)) = false := decide_eq_false (by omega)
        have hd4 : decide ((j : Int) < (b.length : Int)) = false := decide_eq_false (by omega)
        go_wp2
        go_ret
        exact ⟨congrArg (fun x : Int => Ending.returned (.int .i64 x)) (by omega), _, rfl⟩
end Go.Proofs.Qxb6626217a
