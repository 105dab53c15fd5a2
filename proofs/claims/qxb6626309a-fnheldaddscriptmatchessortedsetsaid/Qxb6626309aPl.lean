import Derived.Test.Qxb6626309aRep2
namespace Go.Proofs.Qxb6626309a
open Go.ChangeShapes Go.WideShapes Go.ChangeAt Go.RowKit
set_option linter.unusedVariables false
set_option linter.unusedSimpArgs false

def rA (l : List Rg) (k : Nat) : Rg := l[k]?.getD ⟨0, 0, 0⟩
def sR (l : List Rg) (k : Nat) : Int := (rA l k).s
def fR (l : List Rg) (k : Nat) : Int := (rA l k).f
def lR (l : List Rg) (k : Nat) : Int := (rA l k).l

structure Good (l : List Rg) : Prop where
  rng : ∀ k, k < l.length → 1 ≤ fR l k ∧ fR l k ≤ lR l k ∧ lR l k ≤ 18446744073709551615
  ord : ∀ i j, i < j → j < l.length → sR l i < sR l j ∨ (sR l i = sR l j ∧ lR l i + 1 < fR l j)
theorem Good.nil : Good [] := ⟨fun k hk => by simp at hk, fun i j _ hj => by simp at hj⟩

def Mem (l : List Rg) (s n : Int) : Prop := ∃ k, k < l.length ∧ sR l k = s ∧ fR l k ≤ n ∧ n ≤ lR l k
theorem not_mem_nil (s n : Int) : ¬ Mem [] s n := fun ⟨k, hk, _⟩ => by simp at hk

/-- before id -/
def bef (l : List Rg) (k : Nat) (s n : Int) : Prop := sR l k < s ∨ (sR l k = s ∧ lR l k < n)
theorem bef_down {l : List Rg} (g : Good l) {i j : Nat} {s n : Int} (hij : i < j) (hj : j < l.length) (h : bef l j s n) : bef l i s n := by
  have o := g.ord i j hij hj
  have r := g.rng j hj
  unfold bef at *
  omega

/-- the place that search finds -/
structure Place (l : List Rg) (s n : Int) (i : Nat) : Prop where
  le : i ≤ l.length
  lo : ∀ k, k < i → bef l k s n
  hi : ∀ k, i ≤ k → k < l.length → ¬ bef l k s n

theorem place_mem {l : List Rg} (g : Good l) {s n : Int} {i : Nat} (p : Place l s n i) : Mem l s n ↔ i < l.length ∧ sR l i = s ∧ fR l i ≤ n ∧ n ≤ lR l i := by
  constructor
  · rintro ⟨k, hk, h1, h2, h3⟩
    have hik : i ≤ k := by
      rcases Nat.lt_or_ge k i with h | h
      · have := p.lo k h; unfold bef at this; omega
      · exact h
    by_cases he : i = k
    · subst he; exact ⟨hk, h1, h2, h3⟩
    · have h4 := p.hi i (Nat.le_refl _) (by omega)
      have o := g.ord i k (by omega) hk
      have r := g.rng i (by omega)
      unfold bef at h4
      omega
  · rintro ⟨h, h1, h2, h3⟩; exact ⟨i, h, h1, h2, h3⟩

/-- the row that Replace makes -/
def put (l : List Rg) (i j : Nat) (r : Rg) : List Rg := l.take i ++ r :: l.drop j
theorem put_length {l : List Rg} {i j : Nat} {r : Rg} (hi : i ≤ j) (hj : j ≤ l.length) : (put l i j r).length = i + 1 + (l.length - j) := by simp [put]; omega
theorem put_lo {l : List Rg} {i j k : Nat} {r : Rg} (hi : i ≤ j) (hj : j ≤ l.length) (hk : k < i) : rA (put l i j r) k = rA l k := by
  unfold rA put
  rw [List.getElem?_append_left (by simp; omega), List.getElem?_take_of_lt hk]
theorem put_at {l : List Rg} {i j : Nat} {r : Rg} (hi : i ≤ j) (hj : j ≤ l.length) : rA (put l i j r) i = r := by
  unfold rA put
  have : (l.take i).length = i := by simp; omega
  rw [List.getElem?_append_right (by omega), this]
  simp
theorem put_hi {l : List Rg} {i j k : Nat} {r : Rg} (hi : i ≤ j) (hj : j ≤ l.length) (hk : i < k) : rA (put l i j r) k = rA l (j + (k - i - 1)) := by
  unfold rA put
  have : (l.take i).length = i := by simp; omega
  rw [List.getElem?_append_right (by omega), this, show k - i = (k - i - 1) + 1 by omega, List.getElem?_cons_succ, List.getElem?_drop, show k - i - 1 + 1 - 1 = k - i - 1 by omega]

/-- what the loop of AddRange knows: 'F', 'L': the merged range -/
structure Merge (l : List Rg) (s n : Int) (i j : Nat) (F L : Int) : Prop where
  ij : i ≤ j
  jl : j ≤ l.length
  Fn : F ≤ n
  nL : n ≤ L
  F1 : 1 ≤ F
  L2 : L ≤ 18446744073709551615
  src : ∀ k, i ≤ k → k < j → sR l k = s
  set : ∀ x, (F ≤ x ∧ x ≤ L) ↔ (x = n ∨ ∃ k, i ≤ k ∧ k < j ∧ fR l k ≤ x ∧ x ≤ lR l k)
  lo : ∀ k, k < i → sR l k = s → lR l k + 1 < F

theorem Merge.start {l : List Rg} {s n : Int} {i : Nat} (g : Good l) (p : Place l s (n - 1) i) (h1 : 1 ≤ n) (h2 : n ≤ 18446744073709551615) : Merge l s n i i n n where
  ij := Nat.le_refl _
  jl := p.le
  Fn := Int.le_refl _
  nL := Int.le_refl _
  F1 := h1
  L2 := h2
  src := fun k a b => by omega
  set := fun x => by
    constructor
    · intro h; left; omega
    · rintro (h | ⟨k, a, b, _⟩) <;> omega
  lo := fun k hk hs => by have := p.lo k hk; unfold bef at this; omega

theorem Merge.step {l : List Rg} {s n : Int} {i j : Nat} {F L : Int} (g : Good l) (p : Place l s (n - 1) i) (m : Merge l s n i j F L) (hj : j < l.length) (hs : sR l j = s) (hf : fR l j - 1 ≤ L) :
    Merge l s n i (j + 1) (min F (fR l j)) (max L (lR l j)) := by
  have r := g.rng j hj
  have hb := p.hi j m.ij hj
  have hl : n - 1 ≤ lR l j := by unfold bef at hb; omega
  have hF := m.Fn; have hN := m.nL; have hF1 := m.F1; have hL2 := m.L2
  refine ⟨by have := m.ij; omega, by omega, by omega, by omega, by omega, by omega, ?_, ?_, ?_⟩
  · intro k a b
    by_cases hk : k = j
    · subst hk; exact hs
    · exact m.src k a (by omega)
  · intro x
    have hset := m.set x
    constructor
    · intro h
      by_cases hx : F ≤ x ∧ x ≤ L
      · rcases hset.1 hx with h' | ⟨k, a, b, c⟩
        · exact .inl h'
        · exact .inr ⟨k, a, by omega, c⟩
      · right
        refine ⟨j, m.ij, by omega, ?_, ?_⟩ <;> omega
    · rintro (h | ⟨k, a, b, c, d⟩)
      · omega
      · by_cases hk : k = j
        · subst hk; omega
        · have := hset.2 (.inr ⟨k, a, by omega, c, d⟩)
          omega
  · intro k hk hks
    have h1 := m.lo k hk hks
    have h2 := g.ord k j (by have := m.ij; omega) hj
    omega

theorem Merge.good {l : List Rg} {s n : Int} {i j : Nat} {F L : Int} (g : Good l) (p : Place l s (n - 1) i) (m : Merge l s n i j F L) (hstop : j < l.length → sR l j = s → L < fR l j - 1) :
    Good (put l i j ⟨s, F, L⟩) := by
  have hij := m.ij; have hjl := m.jl
  have len := put_length (l := l) (r := ⟨s, F, L⟩) hij hjl
  have hF := m.Fn; have hN := m.nL
  -- what stands from j on lies behind
  have after : ∀ k, j ≤ k → k < l.length → s < sR l k ∨ (s = sR l k ∧ L + 1 < fR l k) := by
    intro k hk hkl
    have hb := p.hi k (by omega) hkl
    have hrk := g.rng k hkl
    by_cases he : k = j
    · subst he
      by_cases hs : sR l k = s
      · have := hstop hkl hs; omega
      · unfold bef at hb; omega
    · have o := g.ord j k (by omega) hkl
      have hbj := p.hi j (by omega) (by omega)
      have hrj := g.rng j (by omega)
      by_cases hs : sR l j = s
      · have := hstop (by omega) hs; omega
      · unfold bef at hbj; omega
  have before : ∀ k, k < i → sR l k < s ∨ (sR l k = s ∧ lR l k + 1 < F) := by
    intro k hk
    have hb := p.lo k hk
    by_cases hs : sR l k = s
    · exact .inr ⟨hs, m.lo k hk hs⟩
    · unfold bef at hb; omega
  constructor
  · intro k hk
    rw [len] at hk
    unfold fR lR
    rcases Nat.lt_trichotomy k i with h | h | h
    · rw [put_lo hij hjl h]; exact g.rng k (by omega)
    · subst h; rw [put_at hij hjl]; exact ⟨m.F1, by show F ≤ L; omega, m.L2⟩
    · rw [put_hi hij hjl h]; exact g.rng _ (by omega)
  · intro a b hab hb
    rw [len] at hb
    unfold sR fR lR
    rcases Nat.lt_trichotomy a i with ha | ha | ha
    · rw [put_lo hij hjl ha]
      rcases Nat.lt_trichotomy b i with hb2 | hb2 | hb2
      · rw [put_lo hij hjl hb2]; exact g.ord a b hab (by omega)
      · subst hb2; rw [put_at hij hjl]; exact before a ha
      · rw [put_hi hij hjl hb2]; exact g.ord a _ (by omega) (by omega)
    · subst ha
      rw [put_at hij hjl, put_hi hij hjl hab]
      exact after _ (by omega) (by omega)
    · rw [put_hi hij hjl ha, put_hi hij hjl (by omega)]
      exact g.ord _ _ (by omega) (by omega)

theorem Merge.mem {l : List Rg} {s n : Int} {i j : Nat} {F L : Int} (m : Merge l s n i j F L) (a b : Int) : Mem (put l i j ⟨s, F, L⟩) a b ↔ Mem l a b ∨ (a = s ∧ b = n) := by
  have hij := m.ij; have hjl := m.jl
  have len := put_length (l := l) (r := ⟨s, F, L⟩) hij hjl
  constructor
  · rintro ⟨k, hk, h1, h2, h3⟩
    rw [len] at hk
    unfold sR at h1; unfold fR at h2; unfold lR at h3
    rcases Nat.lt_trichotomy k i with h | h | h
    · rw [put_lo hij hjl h] at h1 h2 h3; exact .inl ⟨k, by omega, h1, h2, h3⟩
    · subst h
      rw [put_at hij hjl] at h1 h2 h3
      rcases (m.set b).1 ⟨h2, h3⟩ with hb | ⟨q, q1, q2, q3, q4⟩
      · exact .inr ⟨h1.symm, hb⟩
      · exact .inl ⟨q, by omega, (m.src q q1 q2).trans h1, q3, q4⟩
    · rw [put_hi hij hjl h] at h1 h2 h3; exact .inl ⟨_, by omega, h1, h2, h3⟩
  · rintro (⟨k, hk, h1, h2, h3⟩ | ⟨rfl, rfl⟩)
    · by_cases hki : k < i
      · refine ⟨k, by omega, ?_, ?_, ?_⟩ <;> simp only [sR, fR, lR] <;> rw [put_lo hij hjl hki]
        · exact h1
        · exact h2
        · exact h3
      · by_cases hkj : k < j
        · have hs := m.src k (by omega) hkj
          have hx := (m.set b).2 (.inr ⟨k, by omega, hkj, h2, h3⟩)
          refine ⟨i, by omega, ?_, ?_, ?_⟩ <;> simp only [sR, fR, lR] <;> rw [put_at hij hjl]
          · exact hs.symm.trans h1
          · exact hx.1
          · exact hx.2
        · have e : j + (i + 1 + (k - j) - i - 1) = k := by omega
          refine ⟨i + 1 + (k - j), by omega, ?_, ?_, ?_⟩ <;> simp only [sR, fR, lR] <;> rw [put_hi hij hjl (by omega), e]
          · exact h1
          · exact h2
          · exact h3
    · refine ⟨i, by omega, ?_, ?_, ?_⟩ <;> simp only [sR, fR, lR] <;> rw [put_at hij hjl]
      · exact m.Fn
      · exact m.nL
end Go.Proofs.Qxb6626309a
