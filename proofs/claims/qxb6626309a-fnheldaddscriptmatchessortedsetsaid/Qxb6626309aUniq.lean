import Derived.Test.Qxb6626309aAdd3
namespace Go.Proofs.Qxb6626309a
set_option linter.unusedVariables false
set_option linter.unusedSimpArgs false

theorem rA_succ (r : Rg) (t : List Rg) (k : Nat) : rA (r :: t) (k + 1) = rA t k := by simp [rA]
theorem rA_zero (r : Rg) (t : List Rg) : rA (r :: t) 0 = r := by simp [rA]
theorem Good.tail {r : Rg} {t : List Rg} (g : Good (r :: t)) : Good t := by
  constructor
  · intro k hk
    have := g.rng (k + 1) (by simpa using hk)
    simpa only [fR, lR, rA_succ] using this
  · intro i j hij hj
    have := g.ord (i + 1) (j + 1) (by omega) (by simpa using hj)
    simpa only [sR, fR, lR, rA_succ] using this
theorem mem_cons (r : Rg) (t : List Rg) (a b : Int) : Mem (r :: t) a b ↔ (r.s = a ∧ r.f ≤ b ∧ b ≤ r.l) ∨ Mem t a b := by
  constructor
  · rintro ⟨k, hk, h1, h2, h3⟩
    cases k with
    | zero => simp only [sR, fR, lR, rA_zero] at h1 h2 h3; exact .inl ⟨h1, h2, h3⟩
    | succ k => simp only [sR, fR, lR, rA_succ] at h1 h2 h3; exact .inr ⟨k, by simpa using hk, h1, h2, h3⟩
  · rintro (⟨h1, h2, h3⟩ | ⟨k, hk, h1, h2, h3⟩)
    · exact ⟨0, by simp, by simpa only [sR, rA_zero] using h1, by simpa only [fR, rA_zero] using h2, by simpa only [lR, rA_zero] using h3⟩
    · exact ⟨k + 1, by simpa using hk, by simpa only [sR, rA_succ] using h1, by simpa only [fR, rA_succ] using h2, by simpa only [lR, rA_succ] using h3⟩
theorem head_rng {r : Rg} {t : List Rg} (g : Good (r :: t)) : 1 ≤ r.f ∧ r.f ≤ r.l := by
  have := g.rng 0 (by simp)
  simp only [fR, lR, rA_zero] at this
  exact ⟨this.1, this.2.1⟩
theorem tail_behind {r : Rg} {t : List Rg} (g : Good (r :: t)) {a b : Int} (h : Mem t a b) : r.s < a ∨ (r.s = a ∧ r.l + 1 < b) := by
  obtain ⟨k, hk, h1, h2, h3⟩ := h
  have := g.ord 0 (k + 1) (by omega) (by simpa using hk)
  simp only [sR, fR, lR, rA_succ, rA_zero] at this h1 h2 h3
  omega
theorem least {r : Rg} {t : List Rg} (g : Good (r :: t)) {a b : Int} (h : Mem (r :: t) a b) : r.s < a ∨ (r.s = a ∧ r.f ≤ b) := by
  rcases (mem_cons r t a b).1 h with ⟨h1, h2, _⟩ | h
  · exact .inr ⟨h1, h2⟩
  · have := tail_behind g h
    have := head_rng g
    omega

theorem uniq : ∀ (l l' : List Rg), Good l → Good l' → (∀ a b, Mem l a b ↔ Mem l' a b) → l = l'
  | [], [], _, _, _ => rfl
  | [], r :: t, _, g', h => by
    have hr := head_rng g'
    exact absurd ((h r.s r.f).2 ((mem_cons r t _ _).2 (.inl ⟨rfl, Int.le_refl _, hr.2⟩))) (not_mem_nil _ _)
  | r :: t, [], g, _, h => by
    have hr := head_rng g
    exact absurd ((h r.s r.f).1 ((mem_cons r t _ _).2 (.inl ⟨rfl, Int.le_refl _, hr.2⟩))) (not_mem_nil _ _)
  | r :: t, r' :: t', g, g', h => by
    have hr := head_rng g
    have hr' := head_rng g'
    have m1 := least g' ((h r.s r.f).1 ((mem_cons r t _ _).2 (.inl ⟨rfl, Int.le_refl _, hr.2⟩)))
    have m2 := least g ((h r'.s r'.f).2 ((mem_cons r' t' _ _).2 (.inl ⟨rfl, Int.le_refl _, hr'.2⟩)))
    have es : r.s = r'.s := by omega
    have ef : r.f = r'.f := by omega
    have el : r.l = r'.l := by
      rcases Int.lt_trichotomy r.l r'.l with hlt | he | hlt
      · have hm := (h r.s (r.l + 1)).2 ((mem_cons r' t' _ _).2 (.inl ⟨es.symm, by omega, by omega⟩))
        rcases (mem_cons r t _ _).1 hm with ⟨_, _, h3⟩ | hm
        · omega
        · have := tail_behind g hm; omega
      · exact he
      · have hm := (h r.s (r'.l + 1)).1 ((mem_cons r t _ _).2 (.inl ⟨rfl, by omega, by omega⟩))
        rcases (mem_cons r' t' _ _).1 hm with ⟨_, _, h3⟩ | hm
        · omega
        · have := tail_behind g' hm; omega
    have er : r = r' := by
      cases r; cases r'; simp only at es ef el; subst es ef el; rfl
    subst er
    have := uniq t t' g.tail g'.tail (fun a b => by
      constructor
      · intro hm
        have hb := tail_behind g hm
        rcases (mem_cons r t' a b).1 ((h a b).1 ((mem_cons r t a b).2 (.inr hm))) with ⟨h1, h2, h3⟩ | hm'
        · omega
        · exact hm'
      · intro hm
        have hb := tail_behind g' hm
        rcases (mem_cons r t a b).1 ((h a b).2 ((mem_cons r t' a b).2 (.inr hm))) with ⟨h1, h2, h3⟩ | hm'
        · omega
        · exact hm')
    rw [this]
end Go.Proofs.Qxb6626309a
