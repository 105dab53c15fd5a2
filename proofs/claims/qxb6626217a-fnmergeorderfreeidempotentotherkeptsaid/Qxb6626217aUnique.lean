import Derived.Test.Qxb6626217aMore
namespace Go.Proofs.Qxb6626217a
open Go.RowKit

theorem pw_ext : ∀ (a b : Ms), a.Pairwise (fun x y => x.1 < y.1) → b.Pairwise (fun x y => x.1 < y.1) → (∀ x, x ∈ a ↔ x ∈ b) → a = b
  | [], [], _, _, _ => rfl
  | [], y :: b, _, _, h => by have := (h y).2 (by simp); simp at this
  | x :: a, [], _, _, h => by have := (h x).1 (by simp); simp at this
  | x :: a, y :: b, ha, hb, h => by
    rw [List.pairwise_cons] at ha hb
    have h1 : x = y := by
      have hx := (h x).1 (by simp)
      have hy := (h y).2 (by simp)
      simp only [List.mem_cons] at hx hy
      rcases hx with e | hx
      · exact e
      · rcases hy with e | hy
        · exact e.symm
        · have := hb.1 x hx; have := ha.1 y hy; omega
    subst h1
    have h2 : a = b := by
      refine pw_ext a b ha.2 hb.2 (fun z => ⟨fun hz => ?_, fun hz => ?_⟩)
      · have := (h z).1 (by simp [hz])
        simp only [List.mem_cons] at this
        rcases this with rfl | hz2
        · have := ha.1 z hz; omega
        · exact hz2
      · have := (h z).2 (by simp [hz])
        simp only [List.mem_cons] at this
        rcases this with rfl | hz2
        · have := hb.1 z hz; omega
        · exact hz2
    rw [h2]

theorem sasc_pw {a : Ms} (h : SAsc a) : a.Pairwise (fun x y => x.1 < y.1) := by
  rw [List.pairwise_iff_getElem]
  intro i j hi hj hij
  have := h i j hij hj
  simpa [sA, List.getElem?_eq_getElem hi, List.getElem?_eq_getElem hj] using this

theorem mem_at {a : Ms} {x : Int × Int} : x ∈ a ↔ ∃ p, p < a.length ∧ sA a p = x.1 ∧ tA a p = x.2 := by
  rw [List.mem_iff_getElem]
  constructor
  · rintro ⟨p, hp, rfl⟩
    exact ⟨p, hp, by simp [sA, List.getElem?_eq_getElem hp], by simp [tA, List.getElem?_eq_getElem hp]⟩
  · rintro ⟨p, hp, e1, e2⟩
    refine ⟨p, hp, ?_⟩
    simp only [sA, tA, List.getElem?_eq_getElem hp, Option.getD_some] at e1 e2
    exact Prod.ext e1 e2

theorem sasc_ext {a b : Ms} (ha : SAsc a) (hb : SAsc b) (h1 : ∀ p, p < a.length → ∃ q, q < b.length ∧ sA b q = sA a p ∧ tA b q = tA a p) (h2 : ∀ p, p < b.length → ∃ q, q < a.length ∧ sA a q = sA b p ∧ tA a q = tA b p) : a = b := by
  refine pw_ext a b (sasc_pw ha) (sasc_pw hb) (fun x => ?_)
  rw [mem_at, mem_at]
  constructor
  · rintro ⟨p, hp, e1, e2⟩
    obtain ⟨q, hq, f1, f2⟩ := h1 p hp
    exact ⟨q, hq, by omega, by omega⟩
  · rintro ⟨p, hp, e1, e2⟩
    obtain ⟨q, hq, f1, f2⟩ := h2 p hp
    exact ⟨q, hq, by omega, by omega⟩

/-- the time at one sender is one -/
theorem Good.flip {m o : Ms} (am : SAsc m) (ao : SAsc o) {s t t' : Int} (h : Good m o o.length s t) (h' : Good o m m.length s t') : t = t' := by
  rcases h with ⟨i, hi, ei, j, hj, ej, q⟩ | ⟨i, hi, ei, hn, q⟩ | ⟨hn, j, hj, ej, q⟩
  · rcases h' with ⟨j', hj', ej', i', hi', ei', q'⟩ | ⟨j', hj', ej', hn', q'⟩ | ⟨hn', i', hi', ei', q'⟩
    · obtain rfl : i' = i := am.inj hi' hi (by omega)
      obtain rfl : j' = j := ao.inj hj' hj (by omega)
      omega
    · exact absurd ei (hn' i hi)
    · exact absurd ej (hn' j hj)
  · rcases h' with ⟨j', hj', ej', i', hi', ei', q'⟩ | ⟨j', hj', ej', hn', q'⟩ | ⟨hn', i', hi', ei', q'⟩
    · exact absurd ej' (hn j' hj')
    · exact absurd ej' (hn j' hj')
    · obtain rfl : i' = i := am.inj hi' hi (by omega)
      omega
  · rcases h' with ⟨j', hj', ej', i', hi', ei', q'⟩ | ⟨j', hj', ej', hn', q'⟩ | ⟨hn', i', hi', ei', q'⟩
    · exact absurd ei' (hn i' hi')
    · obtain rfl : j' = j := ao.inj hj' hj (by omega)
      omega
    · exact absurd ei' (hn i' hi')

theorem Good.from {m o : Ms} {s t : Int} (h : Good m o o.length s t) : (∃ i, i < m.length ∧ sA m i = s) ∨ (∃ j, j < o.length ∧ sA o j = s) := by
  rcases h with ⟨i, hi, ei, _⟩ | ⟨i, hi, ei, _⟩ | ⟨_, j, hj, ej, _⟩
  · exact .inl ⟨i, hi, ei⟩
  · exact .inl ⟨i, hi, ei⟩
  · exact .inr ⟨j, hj, ej⟩

theorem IsMerge.orderFree {m o r r' : Ms} (am : SAsc m) (ao : SAsc o) (h : IsMerge m o r) (h' : IsMerge o m r') : r = r' := by
  refine sasc_ext h.asc h'.asc (fun p hp => ?_) (fun p hp => ?_)
  · have g := h.good p hp
    have : ∃ q, q < r'.length ∧ sA r' q = sA r p := by
      rcases g.from with ⟨i, hi, ei⟩ | ⟨j, hj, ej⟩
      · obtain ⟨q, hq, e⟩ := h'.covo i hi; exact ⟨q, hq, by omega⟩
      · obtain ⟨q, hq, e⟩ := h'.covm j hj; exact ⟨q, hq, by omega⟩
    obtain ⟨q, hq, e⟩ := this
    have g' := h'.good q hq
    rw [e] at g'
    exact ⟨q, hq, e, (g.flip am ao g').symm⟩
  · have g := h'.good p hp
    have : ∃ q, q < r.length ∧ sA r q = sA r' p := by
      rcases g.from with ⟨i, hi, ei⟩ | ⟨j, hj, ej⟩
      · obtain ⟨q, hq, e⟩ := h.covo i hi; exact ⟨q, hq, by omega⟩
      · obtain ⟨q, hq, e⟩ := h.covm j hj; exact ⟨q, hq, by omega⟩
    obtain ⟨q, hq, e⟩ := this
    have g' := h.good q hq
    rw [e] at g'
    exact ⟨q, hq, e, g'.flip am ao g⟩

theorem Good.atLeast {m o : Ms} (ao : SAsc o) {s t : Int} (h : Good m o o.length s t) {j : Nat} (hj : j < o.length) (ej : sA o j = s) : tA o j ≤ t := by
  rcases h with ⟨i, hi, ei, j', hj', ej', q⟩ | ⟨i, hi, ei, hn, q⟩ | ⟨hn, j', hj', ej', q⟩
  · obtain rfl : j' = j := ao.inj hj' hj (by omega)
    omega
  · exact absurd ej (hn j hj)
  · obtain rfl : j' = j := ao.inj hj' hj (by omega)
    omega

theorem IsMerge.again {m o r r' : Ms} (ao : SAsc o) (h : IsMerge m o r) (h' : IsMerge r o r') : r' = r := by
  have fwd : ∀ p, p < r'.length → ∃ q, q < r.length ∧ sA r q = sA r' p ∧ tA r q = tA r' p := by
    intro p hp
    rcases h'.good p hp with ⟨i, hi, ei, j, hj, ej, q⟩ | ⟨i, hi, ei, hn, q⟩ | ⟨hn, j, hj, ej, q⟩
    · have g := h.good i hi
      have := g.atLeast ao hj (by omega)
      exact ⟨i, hi, ei, by omega⟩
    · exact ⟨i, hi, ei, by omega⟩
    · obtain ⟨q2, hq2, e⟩ := h.covo j hj
      exact absurd (by omega) (hn q2 hq2)
  refine sasc_ext h'.asc h.asc fwd (fun p hp => ?_)
  obtain ⟨q, hq, e⟩ := h'.covm p hp
  obtain ⟨p2, hp2, e1, e2⟩ := fwd q hq
  obtain rfl : p2 = p := h.asc.inj hp2 hp (by omega)
  exact ⟨q, hq, e, e2.symm⟩

theorem IsMerge.cnt {l0 l1 l2 l3 : List Int} {r : Ms} (e1 : l1.length = l0.length) (e3 : l3.length = l2.length) (h : IsMerge (msgs l0 l1) (msgs l2 l3) r) : Cnt l0 l2 r 0 0 0 := by
  have em := msgs_length l0 l1 e1
  have eo := msgs_length l2 l3 e3
  refine ⟨fun x _ hx => ?_, fun x _ hx => ?_, fun p _ hp => ?_⟩
  · obtain ⟨p, hp, e⟩ := h.covm x (by omega)
    exact ⟨p, Nat.zero_le _, hp, by rw [e, sA_msgs _ _ e1 _ hx]⟩
  · obtain ⟨p, hp, e⟩ := h.covo x (by omega)
    exact ⟨p, Nat.zero_le _, hp, by rw [e, sA_msgs _ _ e3 _ hx]⟩
  · rcases (h.good p hp).from with ⟨i, hi, ei⟩ | ⟨j, hj, ej⟩
    · exact .inl ⟨i, Nat.zero_le _, by omega, by rw [← sA_msgs _ _ e1 _ (by omega)]; exact ei.symm⟩
    · exact .inr ⟨j, Nat.zero_le _, by omega, by rw [← sA_msgs _ _ e3 _ (by omega)]; exact ej.symm⟩
end Go.Proofs.Qxb6626217a
