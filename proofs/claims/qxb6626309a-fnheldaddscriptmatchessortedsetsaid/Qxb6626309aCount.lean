import Derived.Test.Qxb6626309aZz
namespace Go.Proofs.Qxb6626309a
set_option linter.unusedVariables false
set_option linter.unusedSimpArgs false

/-- the number of distinct ids -/
def dst : IdL → Nat
  | [] => 0
  | x :: t => dst t + if x ∈ t then 0 else 1
theorem dst_snoc (l : IdL) (x : Int × Int) : dst (l ++ [x]) = dst l + if x ∈ l then 0 else 1 := by
  induction l with
  | nil => simp [dst]
  | cons y l ih =>
    simp only [List.cons_append, dst, ih, List.mem_append, List.mem_cons, List.mem_singleton, List.not_mem_nil, or_false]
    by_cases hxy : x = y
    · subst hxy
      by_cases h : x ∈ l <;> simp [h]
    · have hyx : ¬ y = x := fun e => hxy e.symm
      by_cases h1 : x ∈ l <;> by_cases h2 : y ∈ l <;> simp [h1, h2, hxy, hyx]
theorem idA (l : IdL) (k : Nat) (hk : k < l.length) : (iA l k, nA l k) = l[k] := by simp [iA, nA, List.getElem?_eq_getElem hk]
theorem isIn_take (l : IdL) (m : Nat) (hm : m ≤ l.length) (s n : Int) : isIn l m s n ↔ (s, n) ∈ l.take m := by
  constructor
  · rintro ⟨k, hk, rfl, rfl⟩
    rw [idA l k (by omega)]
    exact List.mem_take_iff_getElem.2 ⟨k, by omega, rfl⟩
  · intro h
    obtain ⟨k, hk, e⟩ := List.mem_take_iff_getElem.1 h
    have := idA l k (by omega)
    rw [e] at this
    simp only [Prod.mk.injEq] at this
    exact ⟨k, by omega, this.1, this.2⟩
theorem dst_take (l : IdL) (m : Nat) (hm : m < l.length) : dst (l.take (m + 1)) = dst (l.take m) + if (iA l m, nA l m) ∈ l.take m then 0 else 1 := by
  rw [List.take_succ_eq_append_getElem hm, dst_snoc, idA l m hm]
theorem dst_drop (l : IdL) (m : Nat) (hm : m < l.length) : dst (l.drop m) = dst (l.drop (m + 1)) + if (iA l m, nA l m) ∈ l.drop (m + 1) then 0 else 1 := by
  rw [List.drop_eq_getElem_cons hm, dst, idA l m hm]
theorem dst_le (l : IdL) : dst l ≤ l.length := by
  induction l with
  | nil => simp [dst]
  | cons x l ih => simp only [dst, List.length_cons]; split <;> omega
end Go.Proofs.Qxb6626309a
