import Derived.Test.Qxb6626345aLawA
namespace Go.Proofs.Qxb6626345a
open Go.ChangeShapes Go.WideShapes Go.ChangeAt Go.RowKit
set_option linter.unusedVariables false
set_option linter.unusedSimpArgs false

/-! the chain of words -/
def hop (l : List Int) (p : Nat) : Nat → Nat
  | 0 => p
  | n + 1 => hop l p n + (wd l (hop l p n)).size
theorem hop_fix {l : List Int} {p n : Nat} (h : wd l (hop l p n) = ⟨#[]⟩) (m : Nat) (hm : n ≤ m) : hop l p m = hop l p n := by
  induction m with
  | zero => rw [show n = 0 by omega]
  | succ m ih =>
    by_cases h2 : n = m + 1
    · subst h2; rfl
    · have := ih (by omega)
      show hop l p m + _ = _
      rw [this, h]
      rfl
theorem hop_same {l : List Int} {p n m : Nat} (h : wd l (hop l p n) = ⟨#[]⟩) (k : wd l (hop l p m) = ⟨#[]⟩) : hop l p n = hop l p m := by
  by_cases h2 : n ≤ m
  · exact (hop_fix h m h2).symm
  · exact hop_fix k n (by omega)

theorem wd_fits {l : List Int} {p : Nat} (h : wd l p ≠ ⟨#[]⟩) : p + (wd l p).size ≤ l.length ∧ 0 < (wd l p).size := by
  by_cases ht : stands l p tW = true
  · rw [wd_t ht]; exact ⟨(stands_at ht).1, by decide⟩
  · by_cases hf : stands l p fW = true
    · rw [wd_f hf]; exact ⟨(stands_at hf).1, by decide⟩
    · by_cases hn : stands l p nW = true
      · rw [wd_n hn]; exact ⟨(stands_at hn).1, by decide⟩
      · exact absurd (wd_none (by simpa using ht) (by simpa using hf) (by simpa using hn)) h
theorem wd_byte {l : List Int} {p : Nat} (k : Nat) (h : k < (wd l p).size) : ((wd l p)[k].toNat : Int) = at0 l (p + k) := by
  by_cases ht : stands l p tW = true
  · have e := (stands_at ht).2 k
    simp only [wd_t ht] at h ⊢
    have h4 : k < 4 := h
    rw [e h4]
    have : k = 0 ∨ k = 1 ∨ k = 2 ∨ k = 3 := by omega
    rcases this with rfl | rfl | rfl | rfl <;> rfl
  · by_cases hf : stands l p fW = true
    · have e := (stands_at hf).2 k
      simp only [wd_f hf] at h ⊢
      have h4 : k < 5 := h
      rw [e h4]
      have : k = 0 ∨ k = 1 ∨ k = 2 ∨ k = 3 ∨ k = 4 := by omega
      rcases this with rfl | rfl | rfl | rfl | rfl <;> rfl
    · by_cases hn : stands l p nW = true
      · have e := (stands_at hn).2 k
        simp only [wd_n hn] at h ⊢
        have h4 : k < 4 := h
        rw [e h4]
        have : k = 0 ∨ k = 1 ∨ k = 2 ∨ k = 3 := by omega
        rcases this with rfl | rfl | rfl | rfl <;> rfl
      · have := wd_none (l := l) (p := p) (by simpa using ht) (by simpa using hf) (by simpa using hn)
        rw [this] at h
        exact absurd (show k < 0 from h) (Nat.not_lt_zero _)

/-! the row that grows -/
def GRow (w : World) (base G cap : Nat) (r : List Int) : Prop := w.ownsRow base 5 1 (.slice (some ⟨G, 0, none⟩) r.length cap) r.length (r.map (Value.int .u8))
theorem GRow.cell {w : World} {base g cap : Nat} {l : List Int} (h : GRow w base g cap l) {i : Nat} (hi : i < l.length) : w.cell? ⟨g, i, none⟩ = some (.int .u8 (at0 l i)) := by
  rw [World.ownsRow.cellAt h i (by omega), List.getElem?_map, List.getElem?_eq_getElem hi]
  simp [at0, List.getElem?_eq_getElem hi]
theorem GRow.block {w : World} {base g cap : Nat} {l : List Int} (h : GRow w base g cap l) : base ≤ g ∧ g < w.heap.size := World.ownsRow.lt h g rfl
theorem GRow.same {w w' : World} {base g cap : Nat} {l : List Int} (h : GRow w base g cap l) (hb : w'.heap[g]? = w.heap[g]?) : GRow w' base g cap l := by
  refine ⟨h.1, ?_⟩
  rcases h.2 with ⟨h', _⟩ | ⟨g', cap', cur, h', rest⟩
  · simp at h'
  · simp only [Value.slice.injEq, Option.some.injEq, Addr.mk.injEq, and_true, true_and] at h'
    obtain ⟨rfl, rfl⟩ := h'
    exact .inr ⟨g, cap, cur, rfl, by rw [hb]; exact rest⟩
theorem GRow.below {w w' : World} {base g cap : Nat} {l : List Int} (h : GRow w base g cap l) (hb : Below w.heap.size w w') : GRow w' base g cap l := h.same (hb.block g h.block.2)

theorem Kept1.grown {w w' : World} {g : Nat} (h : w.grownBy w' (some g)) : Kept1 g w w' := by
  have hb : ∀ B, B ≤ w.heap.size → B ≤ g → Below B w w' := fun B h1 h2 => (Below.refl _ _).grown h h1 (fun k hk => by cases hk; exact h2)
  have h0 := hb 0 (Nat.zero_le _) (Nat.zero_le _)
  exact ⟨h0.os, h0.tape, h0.output, h0.size, fun k hk hlt => h.block k hlt (fun e => hk (by cases e; rfl))⟩
theorem Kept1.alloc {S : Nat} (w : World) (o : Obj) : Kept1 S w (w.alloc o) := by
  have h := (Below.refl w.heap.size w).alloc (Nat.le_refl _) o
  exact ⟨h.os, h.tape, h.output, h.size, fun k _ hk => h.block k hk⟩

/-- the data, below the scanner -/
def Dat (w : World) (base S : Nat) (r : Option Addr) (l : List Int) : Prop := (r = none ∧ l = []) ∨ ∃ g, r = some ⟨g, 0, none⟩ ∧ base ≤ g ∧ g < S ∧ BRow w base g l
theorem Dat.cloned {w : World} {base S : Nat} {r : Option Addr} {l : List Int} (h : Dat w base S r l) : Cloned w base r l := by
  rcases h with h | ⟨g, h1, h2, _, h3⟩
  · exact .inl h
  · exact .inr ⟨g, h1, h2, h3⟩
theorem Dat.kept {w w' : World} {base S k : Nat} {r : Option Addr} {l : List Int} (h : Dat w base S r l) (hk : Kept1 k w w') (hs : S ≤ k) : Dat w' base S r l := by
  rcases h with h | ⟨g, h1, h2, hlt, h3⟩
  · exact .inl h
  · exact .inr ⟨g, h1, h2, hlt, h3.same (hk.block g (by omega) h3.block.2)⟩
theorem Dat.of {w w' : World} {base : Nat} {r : Option Addr} {l : List Int} (h : Cloned w base r l) (hb : Below w.heap.size w w') : Dat w' base w.heap.size r l := by
  rcases h with h | ⟨g, h1, h2, h3⟩
  · exact .inl h
  · exact .inr ⟨g, h1, h2, h3.block.2, h3.below hb⟩
def lenOf : Value → Nat
  | .slice _ n _ => n
  | _ => 0
end Go.Proofs.Qxb6626345a
