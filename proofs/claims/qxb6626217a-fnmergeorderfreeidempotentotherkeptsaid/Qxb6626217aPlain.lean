import Derived.Test.Qxb6626217aMsgs
namespace Go.Proofs.Qxb6626217a
open Go.RowKit

def SAsc (m : Ms) : Prop := ∀ i j, i < j → j < m.length → sA m i < sA m j

/-- (s, t) is what the first k messages of o make of m at the sender s -/
def Good (m o : Ms) (k : Nat) (s t : Int) : Prop :=
  (∃ i, i < m.length ∧ sA m i = s ∧ ∃ j, j < k ∧ sA o j = s ∧ ((tA m i ≤ tA o j ∧ t = tA o j) ∨ (tA o j ≤ tA m i ∧ t = tA m i))) ∨
  (∃ i, i < m.length ∧ sA m i = s ∧ (∀ j, j < k → sA o j ≠ s) ∧ t = tA m i) ∨
  ((∀ i, i < m.length → sA m i ≠ s) ∧ ∃ j, j < k ∧ sA o j = s ∧ t = tA o j)

theorem Good.next {m o : Ms} {k : Nat} {s t : Int} (h : Good m o k s t) (hs : s ≠ sA o k) : Good m o (k + 1) s t := by
  rcases h with ⟨i, hi, e, j, hj, e2, r⟩ | ⟨i, hi, e, hn, r⟩ | ⟨hn, j, hj, e2, r⟩
  · exact .inl ⟨i, hi, e, j, by omega, e2, r⟩
  · refine .inr (.inl ⟨i, hi, e, fun j hj e3 => ?_, r⟩)
    by_cases hjk : j = k
    · subst hjk; exact hs e3.symm
    · exact hn j (by omega) e3
  · exact .inr (.inr ⟨hn, j, by omega, e2, r⟩)

theorem SAsc.inj {m : Ms} (h : SAsc m) {i j : Nat} (hi : i < m.length) (hj : j < m.length) (e : sA m i = sA m j) : i = j := by
  rcases Nat.lt_trichotomy i j with h1 | h1 | h1
  · have := h i j h1 hj; omega
  · exact h1
  · have := h j i h1 hi; omega

structure Ph1 (m o : Ms) (k : Nat) (r : Ms) : Prop where
  lo : m.length ≤ r.length
  hi : r.length ≤ m.length + k
  snd : ∀ p, p < m.length → sA r p = sA m p
  good : ∀ p, p < r.length → Good m o k (sA r p) (tA r p)
  cov : ∀ q, q < k → ∃ p, p < r.length ∧ sA r p = sA o q
  tail : ∀ p, m.length ≤ p → p < r.length → (∀ i, i < m.length → sA m i ≠ sA r p) ∧ ∃ q, q < k ∧ sA r p = sA o q
  dist : ∀ p p', p < p' → p' < r.length → sA r p ≠ sA r p'

theorem Ph1.start {m o : Ms} (hm : SAsc m) : Ph1 m o 0 m where
  lo := Nat.le_refl _
  hi := by omega
  snd := fun p _ => rfl
  good := fun p hp => .inr (.inl ⟨p, hp, rfl, fun j hj => by omega, rfl⟩)
  cov := fun q hq => by omega
  tail := fun p h1 h2 => by omega
  dist := fun p p' h1 h2 e => by have := hm p p' h1 h2; omega

section
variable {m o r : Ms} {k : Nat}

/-- the message of o's k-th sender is still m's own -/
theorem Ph1.fresh (h : Ph1 m o k r) (hm : SAsc m) (ho : SAsc o) (hk : k < o.length) {i : Nat} (hi : i < m.length) (e : sA m i = sA o k) : tA r i = tA m i := by
  have hl := h.lo
  have hs := h.snd i hi
  rcases h.good i (by omega) with ⟨i', hi', e1, j, hj, e2, _⟩ | ⟨i', hi', e1, _, r⟩ | ⟨hn, _⟩
  · have := ho j k hj hk; omega
  · have : i' = i := hm.inj hi' hi (by omega)
    subst this; exact r
  · exact absurd hs.symm (hn i hi)

theorem Ph1.other (h : Ph1 m o k r) {i : Nat} (hi : i < m.length) (e : sA m i = sA o k) {p : Nat} (hp : p < r.length) (hpi : p ≠ i) : sA r p ≠ sA o k := by
  intro e2
  have hs := h.snd i hi
  have hl := h.lo
  rcases Nat.lt_or_ge p i with h1 | h1
  · exact h.dist p i h1 (by omega) (by omega)
  · exact h.dist i p (by omega) hp (by omega)

theorem Ph1.skip (h : Ph1 m o k r) (hm : SAsc m) (ho : SAsc o) (hk : k < o.length) {i : Nat} (hi : i < m.length) (e : sA m i = sA o k) (ht : tA o k ≤ tA r i) : Ph1 m o (k + 1) r where
  lo := h.lo
  hi := by have := h.hi; omega
  snd := h.snd
  good := fun p hp => by
    by_cases hpi : p = i
    · subst hpi
      have hf := h.fresh hm ho hk hi e
      have hs := h.snd p hi
      exact .inl ⟨p, hi, hs.symm, k, by omega, by omega, .inr ⟨by omega, hf⟩⟩
    · exact (h.good p hp).next (h.other hi e hp hpi)
  cov := fun q hq => by
    by_cases hqk : q = k
    · subst hqk
      have := h.lo
      exact ⟨i, by omega, by rw [h.snd i hi, e]⟩
    · exact h.cov q (by omega)
  tail := fun p h1 h2 => by
    obtain ⟨a, q, hq, e⟩ := h.tail p h1 h2
    exact ⟨a, q, by omega, e⟩
  dist := h.dist

theorem Ph1.upd (h : Ph1 m o k r) (hm : SAsc m) (ho : SAsc o) (hk : k < o.length) {i : Nat} (hi : i < m.length) (e : sA m i = sA o k) (ht : tA r i < tA o k) : Ph1 m o (k + 1) (r.set i (sA r i, tA o k)) := by
  have hl := h.lo
  have hil : i < r.length := by omega
  have es : ∀ p, sA (r.set i (sA r i, tA o k)) p = sA r p := by
    intro p
    rw [sA_set _ _ _ _ hil]
    split
    · subst_vars; rfl
    · rfl
  refine ⟨by simpa using h.lo, ?_, ?_, ?_, ?_, ?_, ?_⟩
  · have := h.hi; simp; omega
  · intro p hp; rw [es]; exact h.snd p hp
  · intro p hp
    rw [List.length_set] at hp
    rw [es, tA_set _ _ _ _ hil]
    by_cases hpi : p = i
    · subst hpi
      have hf := h.fresh hm ho hk hi e
      have hs := h.snd p hi
      rw [if_pos rfl]
      exact .inl ⟨p, hi, hs.symm, k, by omega, by omega, .inl ⟨by omega, rfl⟩⟩
    · rw [if_neg hpi]
      exact (h.good p hp).next (h.other hi e hp hpi)
  · intro q hq
    simp only [List.length_set, es]
    by_cases hqk : q = k
    · subst hqk
      exact ⟨i, by omega, by rw [h.snd i hi, e]⟩
    · exact h.cov q (by omega)
  · intro p h1 h2
    rw [List.length_set] at h2
    simp only [es]
    obtain ⟨a, q, hq, e⟩ := h.tail p h1 h2
    exact ⟨a, q, by omega, e⟩
  · intro p p' h1 h2
    rw [List.length_set] at h2
    simp only [es]
    exact h.dist p p' h1 h2

theorem Ph1.app (h : Ph1 m o k r) (ho : SAsc o) (hk : k < o.length) (e : ∀ i, i < m.length → sA m i ≠ sA o k) : Ph1 m o (k + 1) (r ++ [(sA o k, tA o k)]) := by
  have hl := h.lo
  have hne : ∀ p, p < r.length → sA r p ≠ sA o k := by
    intro p hp e2
    by_cases hpm : p < m.length
    · exact e p hpm (by rw [← h.snd p hpm]; exact e2)
    · obtain ⟨_, q, hq, e3⟩ := h.tail p (by omega) hp
      have := ho q k hq hk; omega
  have es : ∀ p, p < r.length → sA (r ++ [(sA o k, tA o k)]) p = sA r p := fun p hp => by rw [sA_snoc _ _ _ (by omega), if_neg (by omega)]
  have et : ∀ p, p < r.length → tA (r ++ [(sA o k, tA o k)]) p = tA r p := fun p hp => by rw [tA_snoc _ _ _ (by omega), if_neg (by omega)]
  have es' : sA (r ++ [(sA o k, tA o k)]) r.length = sA o k := by rw [sA_snoc _ _ _ (by omega), if_pos rfl]
  have et' : tA (r ++ [(sA o k, tA o k)]) r.length = tA o k := by rw [tA_snoc _ _ _ (by omega), if_pos rfl]
  have hlen : (r ++ [(sA o k, tA o k)]).length = r.length + 1 := by simp
  refine ⟨by omega, by have := h.hi; omega, ?_, ?_, ?_, ?_, ?_⟩
  · intro p hp; rw [es p (by omega)]; exact h.snd p hp
  · intro p hp
    by_cases hpl : p < r.length
    · rw [es p hpl, et p hpl]
      exact (h.good p hpl).next (hne p hpl)
    · obtain rfl : p = r.length := by omega
      rw [es', et']
      exact .inr (.inr ⟨e, k, by omega, rfl, rfl⟩)
  · intro q hq
    by_cases hqk : q = k
    · subst hqk
      exact ⟨r.length, by omega, es'⟩
    · obtain ⟨p, hp, e2⟩ := h.cov q (by omega)
      exact ⟨p, by omega, by rw [es p hp]; exact e2⟩
  · intro p h1 h2
    by_cases hpl : p < r.length
    · rw [es p hpl]
      obtain ⟨a, q, hq, e⟩ := h.tail p h1 hpl
      exact ⟨a, q, by omega, e⟩
    · obtain rfl : p = r.length := by omega
      rw [es']
      exact ⟨e, k, by omega, rfl⟩
  · intro p p' h1 h2
    by_cases hpl : p' < r.length
    · rw [es p (by omega), es p' hpl]
      exact h.dist p p' h1 hpl
    · obtain rfl : p' = r.length := by omega
      rw [es', es p (by omega)]
      exact hne p (by omega)
end

/-! the second loop: each sender added goes into its place -/
structure Ph2 (r0 r : Ms) (f : Nat) : Prop where
  len : r.length = r0.length
  mem : ∀ p, p < r.length → ∃ q, q < r0.length ∧ sA r p = sA r0 q ∧ tA r p = tA r0 q
  cov : ∀ q, q < r0.length → ∃ p, p < r.length ∧ sA r p = sA r0 q
  dist : ∀ p p', p < r.length → p' < r.length → p ≠ p' → sA r p ≠ sA r p'
  asc : ∀ p p', p < p' → p' < f → sA r p < sA r p'

structure Hole (r q : Ms) (f j : Nat) : Prop where
  len : q.length = r.length
  le : j ≤ f
  lo : ∀ p, p < j → sA q p = sA r p ∧ tA q p = tA r p
  mid : ∀ p, j < p → p ≤ f → sA q p = sA r (p - 1) ∧ tA q p = tA r (p - 1)
  hi : ∀ p, f < p → p < r.length → sA q p = sA r p ∧ tA q p = tA r p
  big : ∀ p, j ≤ p → p < f → sA r f < sA r p

theorem Hole.start (r : Ms) (f : Nat) : Hole r r f f := ⟨rfl, Nat.le_refl _, fun _ _ => ⟨rfl, rfl⟩, fun p h1 h2 => by omega, fun _ _ _ => ⟨rfl, rfl⟩, fun p h1 h2 => by omega⟩

theorem Hole.step {r q : Ms} {f j : Nat} (h : Hole r q f j) (hf : f < r.length) (hj : 0 < j) (hb : sA r f < sA q (j - 1)) : Hole r (q.set j (sA q (j - 1), tA q (j - 1))) f (j - 1) := by
  have hle := h.le
  have hlen := h.len
  have hjq : j < q.length := by omega
  have l0 := h.lo (j - 1) (by omega)
  refine ⟨by simpa using h.len, by omega, ?_, ?_, ?_, ?_⟩
  · intro p hp
    rw [sA_set _ _ _ _ hjq, tA_set _ _ _ _ hjq, if_neg (by omega), if_neg (by omega)]
    exact h.lo p (by omega)
  · intro p h1 h2
    rw [sA_set _ _ _ _ hjq, tA_set _ _ _ _ hjq]
    by_cases hpj : p = j
    · subst hpj; rw [if_pos rfl, if_pos rfl]; exact l0
    · rw [if_neg hpj, if_neg hpj]; exact h.mid p (by omega) h2
  · intro p h1 h2
    rw [sA_set _ _ _ _ hjq, tA_set _ _ _ _ hjq, if_neg (by omega), if_neg (by omega)]
    exact h.hi p h1 h2
  · intro p h1 h2
    by_cases hpj : p = j - 1
    · subst hpj; rw [← l0.1]; exact hb
    · exact h.big p (by omega) h2

theorem Ph2.insert {r0 r q : Ms} {f j : Nat} (h : Ph2 r0 r f) (g : Hole r q f j) (hf : f < r.length) (hs : j = 0 ∨ sA q (j - 1) ≤ sA r f) : Ph2 r0 (q.set j (sA r f, tA r f)) (f + 1) := by
  have hle := g.le
  have hlen := g.len
  have hjq : j < q.length := by omega
  have val : ∀ p, p < r.length → ∃ p', p' < r.length ∧ sA (q.set j (sA r f, tA r f)) p = sA r p' ∧ tA (q.set j (sA r f, tA r f)) p = tA r p' ∧ ((p < j ∧ p' = p) ∨ (p = j ∧ p' = f) ∨ (j < p ∧ p ≤ f ∧ p' + 1 = p) ∨ (f < p ∧ p' = p)) := by
    intro p hp
    rw [sA_set _ _ _ _ hjq, tA_set _ _ _ _ hjq]
    rcases Nat.lt_trichotomy p j with h1 | h1 | h1
    · rw [if_neg (by omega), if_neg (by omega)]
      exact ⟨p, hp, (g.lo p h1).1, (g.lo p h1).2, .inl ⟨h1, rfl⟩⟩
    · subst h1
      rw [if_pos rfl, if_pos rfl]
      exact ⟨f, hf, rfl, rfl, .inr (.inl ⟨rfl, rfl⟩)⟩
    · rw [if_neg (by omega), if_neg (by omega)]
      by_cases h2 : p ≤ f
      · exact ⟨p - 1, by omega, (g.mid p h1 h2).1, (g.mid p h1 h2).2, .inr (.inr (.inl ⟨h1, h2, by omega⟩))⟩
      · exact ⟨p, hp, (g.hi p (by omega) hp).1, (g.hi p (by omega) hp).2, .inr (.inr (.inr ⟨by omega, rfl⟩))⟩
  have hl2 : (q.set j (sA r f, tA r f)).length = r.length := by simpa using hlen
  have hl0 := h.len
  generalize hQ : q.set j (sA r f, tA r f) = Q at *
  refine ⟨by omega, ?_, ?_, ?_, ?_⟩
  · intro p hp
    obtain ⟨p', hp', e1, e2, _⟩ := val p (by omega)
    obtain ⟨q', hq', e3, e4⟩ := h.mem p' hp'
    exact ⟨q', hq', by omega, by omega⟩
  · intro q' hq'
    obtain ⟨p', hp', e⟩ := h.cov q' hq'
    have pick : ∃ p, p < r.length ∧ sA Q p = sA r p' := by
      by_cases h1 : p' < j
      · obtain ⟨p2, _, e1, _, h3⟩ := val p' hp'
        exact ⟨p', hp', by rw [e1]; congr 1; omega⟩
      · by_cases h2 : p' = f
        · subst h2
          obtain ⟨p2, _, e1, _, h3⟩ := val j (by omega)
          exact ⟨j, by omega, by rw [e1]; congr 1; omega⟩
        · by_cases h4 : p' < f
          · obtain ⟨p2, _, e1, _, h3⟩ := val (p' + 1) (by omega)
            exact ⟨p' + 1, by omega, by rw [e1]; congr 1; omega⟩
          · obtain ⟨p2, _, e1, _, h3⟩ := val p' hp'
            exact ⟨p', hp', by rw [e1]; congr 1; omega⟩
    obtain ⟨p, hp, e2⟩ := pick
    exact ⟨p, by omega, by rw [e2, e]⟩
  · intro p p' hp hp' hne
    obtain ⟨a, ha, e1, _, h1⟩ := val p (by omega)
    obtain ⟨b, hb, e2, _, h2⟩ := val p' (by omega)
    rw [e1, e2]
    exact h.dist a b ha hb (by omega)
  · intro p p' hpp hp'
    obtain ⟨a, ha, e1, _, h1⟩ := val p (by omega)
    obtain ⟨b, hb, e2, _, h2⟩ := val p' (by omega)
    rw [e1, e2]
    by_cases hpj : p = j
    · have ea : a = f := by omega
      have : sA r f < sA r b := g.big b (by omega) (by omega)
      rw [ea]; exact this
    · by_cases hpj' : p' = j
      · have eb : b = f := by omega
        have ea : a = p := by omega
        subst ea
        rw [eb]
        have hj0 : 0 < j := by omega
        have h5 : sA q (j - 1) ≤ sA r f := by omega
        have h6 := (g.lo (j - 1) (by omega)).1
        have h7 := h.dist (j - 1) f (by omega) hf (by omega)
        by_cases h8 : a = j - 1
        · subst h8; omega
        · have := h.asc a (j - 1) (by omega) (by omega); omega
      · exact h.asc a b (by omega) (by omega)

/-- what d.Merge(other) leaves in d -/
structure IsMerge (m o r : Ms) : Prop where
  asc : SAsc r
  good : ∀ p, p < r.length → Good m o o.length (sA r p) (tA r p)
  covm : ∀ i, i < m.length → ∃ p, p < r.length ∧ sA r p = sA m i
  covo : ∀ j, j < o.length → ∃ p, p < r.length ∧ sA r p = sA o j
  len : r.length ≤ m.length + o.length

theorem Ph2.start {m o r : Ms} (h : Ph1 m o o.length r) (hm : SAsc m) : Ph2 r r m.length where
  len := rfl
  mem := fun p hp => ⟨p, hp, rfl, rfl⟩
  cov := fun q hq => ⟨q, hq, rfl⟩
  dist := fun p p' hp hp' hne e => by
    rcases Nat.lt_or_ge p p' with h1 | h1
    · exact h.dist p p' h1 hp' e
    · exact h.dist p' p (by omega) hp e.symm
  asc := fun p p' h1 h2 => by rw [h.snd p (by omega), h.snd p' h2]; exact hm p p' h1 h2

theorem IsMerge.of {m o r r' : Ms} (h : Ph1 m o o.length r) (h2 : Ph2 r r' r'.length) : IsMerge m o r' where
  asc := fun i j hij hj => h2.asc i j hij hj
  good := fun p hp => by
    obtain ⟨q, hq, e1, e2⟩ := h2.mem p hp
    rw [e1, e2]; exact h.good q hq
  covm := fun i hi => by
    have := h.lo
    obtain ⟨p, hp, e⟩ := h2.cov i (by omega)
    exact ⟨p, hp, by rw [e, h.snd i hi]⟩
  covo := fun j hj => by
    obtain ⟨q, hq, e⟩ := h.cov j hj
    obtain ⟨p, hp, e2⟩ := h2.cov q hq
    exact ⟨p, hp, by rw [e2, e]⟩
  len := by have := h.hi; have := h2.len; omega

end Go.Proofs.Qxb6626217a
