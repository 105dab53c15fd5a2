import Derived.Test.Qxb6626345aLit
namespace Go.Proofs.Qxb6626345a
open Go.ChangeShapes Go.WideShapes Go.ChangeAt Go.RowKit
set_option linter.unusedVariables false
set_option linter.unusedSimpArgs false

theorem byts_of {w : World} {a : Option Addr} {len cap : Nat} {zs : List Int} (h : (a = none ∧ len = 0 ∧ cap = 0 ∧ zs = []) ∨
  ∃ x, a = some x ∧ len ≤ cap ∧ cap ≤ maxLen ∧ zs.length = cap ∧ (∀ i, i < zs.length → w.cell? (x.add i) = some (.int .u8 (zs.getD i 0))) ∧ ∀ n ∈ zs, (Lit.int .u8 n).wf = true) :
    ∃ l, List.length l = len ∧ Byts w a l ∧ (a = none → cap = 0 ∧ l = []) ∧ IsB l ∧ List.length l ≤ 9223372036854775807 := by
  rcases h with ⟨rfl, rfl, rfl, rfl⟩ | ⟨x, rfl, hl, hm, hz, hc, hw⟩
  · exact ⟨[], rfl, .inl rfl, fun _ => ⟨rfl, rfl⟩, fun i hi => by simp at hi, by simp⟩
  · have e : (zs.take len).length = len := by simp; omega
    refine ⟨zs.take len, e, ?_, (fun h => by cases h), ?_, by unfold maxLen at hm; omega⟩
    · by_cases h0 : len = 0
      · subst h0; exact .inl (by simp)
      · obtain ⟨b, off, spot⟩ := x
        have hspot : spot = none := by simpa [Addr.add] using World.cell?_spot (hc 0 (by omega))
        subst hspot
        refine .inr ⟨b, off, rfl, fun i hi => ?_⟩
        rw [e] at hi
        have := hc i (by omega)
        rw [add_plain] at this
        rw [this]
        simp [at0, hi]
    · intro i hi
      rw [e] at hi
      have e1 : at0 (zs.take len) i = zs[i]'(by omega) := by simp [at0, hi, List.getElem?_eq_getElem (show i < zs.length by omega)]
      have := hw _ (List.getElem_mem (show i < zs.length by omega))
      rw [e1]
      simp [Lit.wf, IntKind.min, IntKind.max, IntKind.signed, IntKind.bits] at this
      omega
end Go.Proofs.Qxb6626345a
