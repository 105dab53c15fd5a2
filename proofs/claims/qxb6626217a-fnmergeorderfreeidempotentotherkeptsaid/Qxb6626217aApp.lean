import Derived.Test.Qxb6626217aMsgs
namespace Go.Proofs.Qxb6626217a
open Go.RowKit

/-- append of one message, told with the place of the row behind it -/
theorem wpList_append_msg {P : Program} (w : World) {ops : Array Oper} {rest : List Oper} {o : Oper} {a : Act} {Q : Exit → Act → World → Prop}
    (hg : o.guard = none) (s x : Operand) (t : TypeId) (hop : o.op = Op.call { callee := Callee.builtin Builtin.append, args := #[s, x], argTypes := #[t, t] })
    (base : Nat) (i : TypeInfo) (z : Value) (h1 : P.underlying t = some (.slice 34)) (h2 : P.info? 34 = some i) (h3 : i.zero = some z) (h4 : i.size = 2) (h5 : i.bytes = 16) (h6 : z.cells.size = 2)
    (g cap : Nat) (r : Ms) (hs : a.eval s = .slice (some ⟨g, 0, none⟩) r.length cap) (hrow : Row w base g cap r)
    (ad : Addr) (c : Nat) (sv tv : Int) (hx : a.eval x = .slice (some ad) 1 c) (hc : ∀ j u, [Value.int .i64 sv, Value.int .i64 tv][j]? = some u → w.cell? (ad.add j) = some u)
    (b1 : r.length ≤ 4294967296) (hb : base ≤ w.heap.size)
    (hK : ∀ g' cap' w', Row w' base g' cap' (r ++ [(sv, tv)]) → (g' = g ∨ w.heap.size ≤ g') → Keeps (fun k => k = g) w w' → wpList P ops Q rest (a.put o.dst (.slice (some ⟨g', 0, none⟩) (r.length + 1) cap')) w') :
    wpList P ops Q (o :: rest) a w := by
  have one : ∀ u ∈ [Value.int .i64 sv, Value.int .i64 tv], u.oneCell' = true := by
    intro u hu; simp at hu; rcases hu with rfl | rfl <;> rfl
  have ef : flat r ++ [Value.int .i64 sv, Value.int .i64 tv] = flat (r ++ [(sv, tv)]) := by rw [flat_append]; rfl
  by_cases hr : r.length + 1 ≤ cap
  · refine wpList_append_fits w hg s x t hop base 34 i 2 h1 h2 h4 g r.length cap (flat r) hs hrow ad 1 c [.int .i64 sv, .int .i64 tv] hx rfl hc one hr ?_
    intro w' hown hgrow
    rw [ef] at hown
    refine hK g cap w' ?_ (.inl rfl) (Keeps.grown hgrow (fun k hk => by simpa [Value.ownBlock] using hk.symm))
    unfold Row
    simpa using hown
  · refine wpList_append_grows w hg s x t hop 34 i z 2 16 h1 h2 h3 h4 h5 h6 (by decide) (some ⟨g, 0, none⟩) r.length cap (flat r) hs (by simp) hrow.1 ?_ ad 1 c [.int .i64 sv, .int .i64 tv] hx rfl hc one (by omega) (by unfold maxLen; omega) (by omega) ?_
    · intro b hb j u hu
      cases hb
      exact World.ownsRow.cells hrow rfl j u hu
    · intro v' w' hown hgrow
      rw [ef] at hown
      rcases hown.2 with ⟨_, h⟩ | ⟨g', cap', cur, rfl, hbg, rest'⟩
      · omega
      · refine hK g' cap' w' ⟨by rw [flat_length], .inr ⟨g', cap', cur, by simp, by omega, by simpa using rest'⟩⟩ (.inr hbg) (Keeps.grown hgrow (fun k hk => by cases hk))
end Go.Proofs.Qxb6626217a
