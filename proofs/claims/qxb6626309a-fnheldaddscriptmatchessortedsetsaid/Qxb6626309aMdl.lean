import Derived.Test.Qxb6626309aCount
namespace Go.Proofs.Qxb6626309a
set_option linter.unusedVariables false
set_option linter.unusedSimpArgs false

def ltI (a b c d : Int) : Prop := a < c ∨ (a = c ∧ b < d)
/-- sorted, no id twice -/
def Srt (m : IdL) : Prop := ∀ i j, i < j → j < m.length → ltI (iA m i) (nA m i) (iA m j) (nA m j)
theorem Srt.nil : Srt [] := fun i j _ hj => by simp at hj

/-- what zzB1Find answers -/
structure FindAt (m : IdL) (s n : Int) (i : Nat) (b : Bool) : Prop where
  le : i ≤ m.length
  lo : ∀ k, k < i → ltI (iA m k) (nA m k) s n
  yes : b = true → i < m.length ∧ iA m i = s ∧ nA m i = n
  no : b = false → ∀ k, i ≤ k → k < m.length → ltI s n (iA m k) (nA m k)

theorem isIn_all (m : IdL) (s n : Int) : (s, n) ∈ m ↔ ∃ k, k < m.length ∧ iA m k = s ∧ nA m k = n := by
  have := isIn_take m m.length (Nat.le_refl _) s n
  rw [List.take_length] at this
  exact this.symm

theorem FindAt.mem {m : IdL} {s n : Int} {i : Nat} {b : Bool} (f : FindAt m s n i b) : b = true ↔ (s, n) ∈ m := by
  rw [isIn_all]
  constructor
  · intro h
    have := f.yes h
    exact ⟨i, this⟩
  · rintro ⟨k, hk, h1, h2⟩
    cases hb : b with
    | true => rfl
    | false =>
      rcases Nat.lt_or_ge k i with h | h
      · have := f.lo k h; unfold ltI at this; omega
      · have := f.no hb k h hk; unfold ltI at this; omega

def ins (m : IdL) (i : Nat) (x : Int × Int) : IdL := m.take i ++ x :: m.drop i
theorem ins_length {m : IdL} {i : Nat} {x : Int × Int} (hi : i ≤ m.length) : (ins m i x).length = m.length + 1 := by simp [ins]; omega
theorem ins_get {m : IdL} {i : Nat} {x : Int × Int} (hi : i ≤ m.length) (k : Nat) : (ins m i x)[k]? = if k < i then m[k]? else if k = i then some x else m[k - 1]? := by
  unfold ins
  have hl : (m.take i).length = i := by simp; omega
  by_cases h1 : k < i
  · rw [if_pos h1, List.getElem?_append_left (by omega), List.getElem?_take_of_lt h1]
  · rw [if_neg h1, List.getElem?_append_right (by omega), hl]
    by_cases h2 : k = i
    · subst h2; simp
    · rw [if_neg h2, show k - i = (k - i - 1) + 1 by omega, List.getElem?_cons_succ, List.getElem?_drop, show i + (k - i - 1) = k - 1 by omega]
theorem ins_iA {m : IdL} {i : Nat} {s n : Int} (hi : i ≤ m.length) (k : Nat) : iA (ins m i (s, n)) k = if k < i then iA m k else if k = i then s else iA m (k - 1) := by
  unfold iA
  rw [ins_get hi]
  by_cases h1 : k < i
  · simp [h1]
  · by_cases h2 : k = i
    · simp [h1, h2]
    · simp [h1, h2]
theorem ins_nA {m : IdL} {i : Nat} {s n : Int} (hi : i ≤ m.length) (k : Nat) : nA (ins m i (s, n)) k = if k < i then nA m k else if k = i then n else nA m (k - 1) := by
  unfold nA
  rw [ins_get hi]
  by_cases h1 : k < i
  · simp [h1]
  · by_cases h2 : k = i
    · simp [h1, h2]
    · simp [h1, h2]
theorem ins_mem {m : IdL} {i : Nat} {s n : Int} (a b : Int) : (a, b) ∈ ins m i (s, n) ↔ (a, b) ∈ m ∨ (a = s ∧ b = n) := by
  unfold ins
  rw [List.mem_append, List.mem_cons, Prod.mk.injEq]
  have : (a, b) ∈ m ↔ (a, b) ∈ m.take i ∨ (a, b) ∈ m.drop i := by
    rw [← List.mem_append, List.take_append_drop]
  rw [this]
  constructor
  · rintro (h | h | h)
    · exact .inl (.inl h)
    · exact .inr h
    · exact .inl (.inr h)
  · rintro ((h | h) | h)
    · exact .inl h
    · exact .inr (.inr h)
    · exact .inr (.inl h)
theorem FindAt.srt {m : IdL} {s n : Int} {i : Nat} (f : FindAt m s n i false) (g : Srt m) : Srt (ins m i (s, n)) := by
  intro a b hab hb
  rw [ins_length f.le] at hb
  rw [ins_iA f.le, ins_nA f.le, ins_iA f.le, ins_nA f.le]
  by_cases a1 : a < i
  · rw [if_pos a1, if_pos a1]
    by_cases b1 : b < i
    · rw [if_pos b1, if_pos b1]; exact g a b hab (by have := f.le; omega)
    · rw [if_neg b1, if_neg b1]
      by_cases b2 : b = i
      · rw [if_pos b2, if_pos b2]; exact f.lo a a1
      · rw [if_neg b2, if_neg b2]; exact g a (b - 1) (by omega) (by omega)
  · rw [if_neg a1, if_neg a1, if_neg (show ¬ b < i by omega), if_neg (show ¬ b < i by omega), if_neg (show ¬ b = i by omega), if_neg (show ¬ b = i by omega)]
    by_cases a2 : a = i
    · rw [if_pos a2, if_pos a2]; exact f.no rfl (b - 1) (by omega) (by omega)
    · rw [if_neg a2, if_neg a2]; exact g (a - 1) (b - 1) (by omega) (by omega)

/-! the cover -/
structure Fits (l : List Rg) (m : IdL) : Prop where
  good : Good l
  srt : Srt m
  mem : ∀ a b, Mem l a b ↔ (a, b) ∈ m
structure CovAt (l : List Rg) (m : IdL) (r k : Nat) : Prop where
  rl : r ≤ l.length
  km : k ≤ m.length
  go : k < m.length → r < l.length ∧ iA m k = sR l r ∧ nA m k = fR l r
  fin : k = m.length → r = l.length
structure Inn (l : List Rg) (m : IdL) (r k : Nat) : Prop where
  rl : r < l.length
  km : k < m.length
  s : iA m k = sR l r
  f : fR l r ≤ nA m k
  l : nA m k ≤ lR l r

theorem Fits.at {l : List Rg} {m : IdL} (F : Fits l m) {r : Nat} (hr : r < l.length) {x : Int} (h1 : fR l r ≤ x) (h2 : x ≤ lR l r) : ∃ j, j < m.length ∧ iA m j = sR l r ∧ nA m j = x :=
  (isIn_all m _ _).1 ((F.mem _ _).1 ⟨r, hr, rfl, h1, h2⟩)
theorem Fits.of {l : List Rg} {m : IdL} (F : Fits l m) {k : Nat} (hk : k < m.length) : ∃ r, r < l.length ∧ sR l r = iA m k ∧ fR l r ≤ nA m k ∧ nA m k ≤ lR l r :=
  (F.mem _ _).2 ((isIn_all m _ _).2 ⟨k, hk, rfl, rfl⟩)

theorem Fits.start {l : List Rg} {m : IdL} (F : Fits l m) : CovAt l m 0 0 := by
  refine ⟨Nat.zero_le _, Nat.zero_le _, ?_, ?_⟩
  · intro h
    obtain ⟨r, hr, h1, h2, h3⟩ := F.of h
    have h0 : 0 < l.length := by omega
    have g0 := F.good.rng 0 h0
    obtain ⟨j, hj, j1, j2⟩ := F.at h0 (Int.le_refl _) g0.2.1
    have A : iA m 0 < iA m j ∨ (iA m 0 = iA m j ∧ nA m 0 ≤ nA m j) := by
      by_cases hj0 : j = 0
      · subst hj0; exact .inr ⟨rfl, Int.le_refl _⟩
      · have := F.srt 0 j (by omega) hj; unfold ltI at this; omega
    have B : sR l 0 < sR l r ∨ (sR l 0 = sR l r ∧ fR l 0 ≤ fR l r) := by
      by_cases hr0 : r = 0
      · subst hr0; exact .inr ⟨rfl, Int.le_refl _⟩
      · have := F.good.ord 0 r (by omega) hr; omega
    refine ⟨h0, ?_, ?_⟩ <;> omega
  · intro h
    rcases Nat.eq_zero_or_pos l.length with h0 | h0
    · exact h0.symm
    · have g0 := F.good.rng 0 h0
      obtain ⟨j, hj, _⟩ := F.at h0 (Int.le_refl _) g0.2.1
      omega

theorem CovAt.inn {l : List Rg} {m : IdL} {r k : Nat} (F : Fits l m) (c : CovAt l m r k) (hk : k < m.length) : Inn l m r k := by
  obtain ⟨h1, h2, h3⟩ := c.go hk
  have g := F.good.rng r h1
  exact ⟨h1, hk, h2, by omega, by omega⟩

theorem Inn.step {l : List Rg} {m : IdL} {r k : Nat} (F : Fits l m) (I : Inn l m r k) (h : nA m k < lR l r) : k + 1 < m.length ∧ iA m (k + 1) = iA m k ∧ nA m (k + 1) = nA m k + 1 ∧ Inn l m r (k + 1) := by
  have i1 := I.rl; have i2 := I.km; have i3 := I.s; have i4 := I.f; have i5 := I.l
  obtain ⟨j, hj, j1, j2⟩ := F.at (x := nA m k + 1) i1 (by omega) (by omega)
  have kj : k < j := by
    rcases Nat.lt_trichotomy k j with h' | h' | h'
    · exact h'
    · subst h'; omega
    · have := F.srt j k h' i2; unfold ltI at this; omega
  have s1 := F.srt k (k + 1) (by omega) (by omega)
  have e : iA m (k + 1) = sR l r ∧ nA m (k + 1) = nA m k + 1 := by
    by_cases hh : k + 1 = j
    · rw [hh]; exact ⟨j1, j2⟩
    · have s2 := F.srt (k + 1) j (by omega) hj
      unfold ltI at s1 s2
      omega
  exact ⟨by omega, by omega, by omega, ⟨i1, by omega, by omega, by omega, by omega⟩⟩

theorem Inn.stop {l : List Rg} {m : IdL} {r k : Nat} (F : Fits l m) (I : Inn l m r k) (h : nA m k = lR l r) : (k + 1 < m.length → iA m (k + 1) = iA m k → nA m k + 1 < nA m (k + 1)) ∧ CovAt l m (r + 1) (k + 1) := by
  have i1 := I.rl; have i2 := I.km; have i3 := I.s; have i4 := I.f; have i5 := I.l
  have up : ∀ j, j < m.length → (sR l r < iA m j ∨ (sR l r = iA m j ∧ lR l r < nA m j)) → k < j := fun j hj hh => by
    rcases Nat.lt_trichotomy k j with h' | h' | h'
    · exact h'
    · subst h'; omega
    · have := F.srt j k h' i2; unfold ltI at this; omega
  have next : k + 1 < m.length → ∃ r', r < r' ∧ r' < l.length ∧ sR l r' = iA m (k + 1) ∧ fR l r' ≤ nA m (k + 1) := fun hk => by
    obtain ⟨r', h1, h2, h3, h4⟩ := F.of hk
    have s1 := F.srt k (k + 1) (by omega) hk
    unfold ltI at s1
    refine ⟨r', ?_, h1, h2, h3⟩
    rcases Nat.lt_trichotomy r r' with h' | h' | h'
    · exact h'
    · subst h'; omega
    · have := F.good.ord r' r h' i1; omega
  refine ⟨?_, by omega, by omega, ?_, ?_⟩
  · intro hk hs
    obtain ⟨r', h1, h2, h3, h4⟩ := next hk
    have := F.good.ord r r' h1 h2
    omega
  · intro hk
    obtain ⟨r', h1, h2, h3, h4⟩ := next hk
    have hr1 : r + 1 < l.length := by omega
    have g1 := F.good.rng (r + 1) hr1
    have o1 := F.good.ord r (r + 1) (by omega) hr1
    obtain ⟨j, hj, j1, j2⟩ := F.at hr1 (Int.le_refl _) g1.2.1
    have kj := up j hj (by omega)
    have A : iA m (k + 1) < iA m j ∨ (iA m (k + 1) = iA m j ∧ nA m (k + 1) ≤ nA m j) := by
      by_cases hh : k + 1 = j
      · rw [hh]; exact .inr ⟨rfl, Int.le_refl _⟩
      · have := F.srt (k + 1) j (by omega) hj; unfold ltI at this; omega
    have B : sR l (r + 1) < sR l r' ∨ (sR l (r + 1) = sR l r' ∧ fR l (r + 1) ≤ fR l r') := by
      by_cases hh : r + 1 = r'
      · rw [hh]; exact .inr ⟨rfl, Int.le_refl _⟩
      · have := F.good.ord (r + 1) r' (by omega) h2; omega
    refine ⟨hr1, ?_, ?_⟩ <;> omega
  · intro hk
    rcases Nat.lt_or_ge (r + 1) l.length with hr1 | hr1
    · have g1 := F.good.rng (r + 1) hr1
      have o1 := F.good.ord r (r + 1) (by omega) hr1
      obtain ⟨j, hj, j1, j2⟩ := F.at hr1 (Int.le_refl _) g1.2.1
      have kj := up j hj (by omega)
      omega
    · omega
end Go.Proofs.Qxb6626309a
