import Derived.Test.Qxb6626248aDoorMeets
import Derived.WalkLawsBesides
namespace Go.Proofs.Qxb6626248aDoor
open Go.ChangeShapes Go.WideShapes Go.ChangeAt Go.RowKit
set_option linter.unusedVariables false
set_option linter.unusedSimpArgs false

theorem zero46 (w : World) : (zeroValue 46).run Tryd.prog w = .ok (.agg #[]) w := by kernel_rfl
theorem eql45 (p : Option Nat) (w : World) : (binOp .eql 45 (.map p) (.map none)).run Tryd.prog w = .ok (.bool p.isNone) w := by
  simp only [binOp]
  simp [run_equal_map_nil w 45 9 46 p Tryd.underlying45]

/-- a set of strings -/
def Units (f : Ents) : Prop := ∀ s v, look f s = some v → v = .agg #[]
theorem Units.nil : Units [] := fun s v h => by simp [look] at h
theorem Units.put {f : Ents} (h : Units f) (s : ByteArray) : Units (put f s (.agg #[])) := by
  intro t v hv
  rw [look_put] at hv
  split at hv
  · simpa using hv.symm
  · exact h t v hv
theorem Units.get {f : Ents} (h : Units f) (s : ByteArray) : (look f s).getD (.agg #[]) = .agg #[] := by
  cases hl : look f s with
  | none => rfl
  | some v => rw [h s v hl]; rfl

theorem wpList_look_unit {P : Program} (w : World) {ops : Array Oper} {rest : List Oper} {o : Oper} {a : Act} {Q : Exit → Act → World → Prop} (hg : o.guard = none) (m x : Operand) (t : TypeId) (hop : o.op = Op.lookup t m x true) (k e : TypeId) (ht : P.underlying t = some (.map k e)) (hk : P.underlying k = some .string) (hz : (zeroValue e).run P w = .ok (.agg #[]) w)
    (v : Value) (f : Ents) (hm : a.eval m = v) (h : MapV w v f) (hu : Units f) (s : ByteArray) (hx : a.eval x = .string s)
    (hK : wpList P ops Q rest (a.put o.dst (.tuple #[.agg #[], .bool (look f s).isSome])) w) :
    wpList P ops Q (o :: rest) a w := by
  refine wpList_look_ok w hg m x t hop k e ht hk (.agg #[]) hz v f hm h s hx ?_
  rw [hu.get s]
  exact hK

theorem admits_any (B : Nat) (p : Option Nat) (ve : Value) (fa fe : Ents) (s : ByteArray) (w : World) (c0 : w.cell? ⟨B, 0, none⟩ = some (.map p)) (c1 : w.cell? ⟨B, 1, none⟩ = some ve) (ha : MapV w (.map p) fa) (he : MapV w ve fe) (ua : Units fa) (ue : Units fe) :
    Calls Tryd.prog 18 #[.pointer (some ⟨B, 0, none⟩), .string s] w fun e w' => e = .returned (.bool (!(look fe s).isSome && ((look fa s).isSome || p.isNone))) ∧ Below w.heap.size w w' := by
  obtain ⟨pe, rfl⟩ : ∃ pe, ve = .map pe := by rcases he with ⟨rfl, _⟩ | ⟨b, rfl, _⟩; exact ⟨_, rfl⟩; exact ⟨_, rfl⟩
  have hB := block_lt_of_cell c0
  simp only at hB
  have B0 : ∀ o, Below w.heap.size w (w.alloc o) := fun o => (Below.refl _ _).alloc (Nat.le_refl _) _
  have hq := eql45 p
  cases h1 : (look fe s).isSome with
  | true =>
    go_enter Tryd.func18, Tryd.ntmps18
    go_wp2_with (at_lookup; refine wpList_look_unit _ rfl _ _ 45 rfl 9 46 Tryd.underlying45 Tryd.underlying9 (zero46 _) (.map pe) fe rfl he ue s rfl ?_)
    go_ret
    exact ⟨rfl, B0 _⟩
  | false =>
    cases h2 : (look fa s).isSome with
    | true =>
      go_enter Tryd.func18, Tryd.ntmps18
      go_wp2_with (first | (at_lookup; refine wpList_look_unit _ rfl (.tmp 13) _ 45 rfl 9 46 Tryd.underlying45 Tryd.underlying9 (zero46 _) (.map pe) fe rfl he ue s rfl ?_) | (at_lookup; refine wpList_look_unit _ rfl (.tmp 23) _ 45 rfl 9 46 Tryd.underlying45 Tryd.underlying9 (zero46 _) (.map p) fa rfl (ha.below (B0 _)) ua s rfl ?_))
      go_ret
      exact ⟨rfl, (B0 _).alloc (by simp) _⟩
    | false =>
      go_enter Tryd.func18, Tryd.ntmps18
      go_wp2_with (first | (at_lookup; refine wpList_look_unit _ rfl (.tmp 13) _ 45 rfl 9 46 Tryd.underlying45 Tryd.underlying9 (zero46 _) (.map pe) fe rfl he ue s rfl ?_) | (at_lookup; refine wpList_look_unit _ rfl (.tmp 23) _ 45 rfl 9 46 Tryd.underlying45 Tryd.underlying9 (zero46 _) (.map p) fa rfl (ha.below (B0 _)) ua s rfl ?_))
      go_ret
      exact ⟨rfl, (B0 _).alloc (by simp) _⟩
end Go.Proofs.Qxb6626248aDoor
