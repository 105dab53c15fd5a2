import Derived.Test.Qxb6626309aCount
import Derived.LaidMore
import Derived.Deep.Slices
import Derived.Deep.SlicePairs
import Derived.Deep.Strs
namespace Go.Proofs.Qxb6626309a
open Go.ChangeShapes Go.WideShapes Go.ChangeAt Go.RowKit
set_option linter.unusedVariables false
set_option linter.unusedSimpArgs false

def InU (l : IdL) : Prop := ∀ k, k < l.length → 0 ≤ nA l k ∧ nA l k ≤ 18446744073709551615

theorem cells26 : Try.prog.cellsOf 26 = 2 := by kernel_rfl
theorem cells3 : Try.prog.cellsOf 3 = 1 := by kernel_rfl
theorem cells24 : Try.prog.cellsOf 24 = 1 := by kernel_rfl

section
variable {H : Type} {enc : TypeId × Value → H} {w : World} {base : Nat} {held : Bool}

/-- a slice of ids that came in, opened -/
theorem ids_of {a : Option Addr} {len c : Nat} {d : DataW H} {p : List MemPlace} (h : DataW.Trod enc Try.prog w base (fun _ => true) held 22 (.slice a len c) d p) :
    ∃ l : IdL, List.length l = len ∧ Ids w a l ∧ len ≤ 9223372036854775807 ∧ len ≤ c ∧ InU l := by
  obtain ⟨fuel, hf⟩ := h
  rcases Deep.open_slice_pairs Try.underlying22 Try.underlying26 cells26 rfl rfl cells3 cells24 hf with ⟨h0, _⟩ | ⟨x, l, cap, m, n, V0, V1, D0, D1, P0, P1, h0, _, hl, hm, hmm, _, hx⟩
  · simp [Value.cells] at h0
    obtain ⟨rfl, rfl, rfl⟩ := h0
    exact ⟨[], rfl, .inl rfl, by simp, Nat.le_refl _, fun k hk => by simp at hk⟩
  · simp [Value.cells] at h0
    obtain ⟨rfl, rfl, rfl⟩ := h0
    have hm2 : m = c := by simpa using hmm
    subst hm2
    by_cases hz : len = 0
    · subst hz; exact ⟨[], rfl, .inl rfl, by simp, hl, fun k hk => by simp at hk⟩
    obtain ⟨b, off, spot⟩ := x
    have hspot : spot = none := by simpa [Addr.add] using World.cell?_spot (hx 0 (by omega)).1
    subst hspot
    have each : ∀ i, i < len → ∃ q : Int × Int, w.cell? ⟨b, off + i * 2, none⟩ = some (.int .i64 q.1) ∧ w.cell? ⟨b, off + i * 2 + 1, none⟩ = some (.int .u64 q.2) ∧ 0 ≤ q.2 ∧ q.2 ≤ 18446744073709551615 := fun i hi => by
      obtain ⟨h1, h2, h3, h4⟩ := hx i (by omega)
      obtain ⟨s, e1, _⟩ := DataW.trod_int Try.underlying3 h3
      obtain ⟨s', e2, _, wf⟩ := DataW.trod_int Try.underlying24 h4
      simp only [List.cons.injEq, and_true] at e1 e2
      rw [add_plain] at h1 h2
      rw [e1] at h1
      rw [e2] at h2
      refine ⟨(s, s'), h1, by rw [Nat.add_assoc]; exact h2, ?_⟩
      simp [Lit.wf, IntKind.min, IntKind.max, IntKind.signed, IntKind.bits] at wf
      omega
    obtain ⟨Q, hQ⟩ := Deep.choose_lt each
    have hlen : ((List.range len).map Q).length = len := by simp
    have ei : ∀ i, i < len → iA ((List.range len).map Q) i = (Q i).1 := fun i hi => by simp [iA, hi]
    have en : ∀ i, i < len → nA ((List.range len).map Q) i = (Q i).2 := fun i hi => by simp [nA, hi]
    refine ⟨(List.range len).map Q, hlen, .inr ⟨b, off, rfl, fun i hi => ?_⟩, by unfold maxLen at hm; omega, hl, fun k hk => ?_⟩
    · rw [hlen] at hi
      rw [ei i hi, en i hi]
      exact ⟨(hQ i hi).1, (hQ i hi).2.1⟩
    · rw [hlen] at hk
      rw [en k hk]
      exact (hQ k hk).2.2
end
end Go.Proofs.Qxb6626309a
