import Derived.Test.Qxb6626217aRows
import Derived.WalkKit
import Derived.ProofKit
import Derived.OpenShut
import Derived.Below
import Derived.RegionTactic
import Derived.Deep.QuietTactic
import Derived.BigQuiet
import Derived.Deep.LoopGhost
namespace Go.Proofs.Qxb6626217a
open Go.ChangeShapes Go.WideShapes Go.ChangeAt Go.RowKit
set_option linter.unusedVariables false

def at0 (l : List Int) (i : Nat) : Int := l[i]?.getD 0

/-- A slice of ints, as a walk sees it. -/
def Ints (w : World) (a : Option Addr) (l : List Int) : Prop :=
  l = [] ∨ ∃ b off, a = some ⟨b, off, none⟩ ∧ ∀ i, i < l.length → w.cell? ⟨b, off + i, none⟩ = some (.int .i64 (at0 l i))

def Asc (l : List Int) : Prop := ∀ i, i + 1 < l.length → at0 l i < at0 l (i + 1)

theorem Ints.get {w : World} {a : Option Addr} {l : List Int} (h : Ints w a l) (hl : 0 < l.length) : ∃ b off, a = some ⟨b, off, none⟩ ∧ ∀ i, i < l.length → w.cell? ⟨b, off + i, none⟩ = some (.int .i64 (at0 l i)) := by
  rcases h with rfl | h
  · simp at hl
  · exact h

theorem drewN_drewN (w : World) (a b : Nat) : (w.drewN a).drewN b = w.drewN (a + b) := by
  first | exact World.drewN_drewN .. | simp

theorem asc_lt {l : List Int} (h : Asc l) {i j : Nat} (hij : i < j) (hj : j < l.length) : at0 l i < at0 l j := by
  induction j with
  | zero => omega
  | succ j ih =>
    have h1 := h j hj
    by_cases hij2 : i = j
    · subst hij2; exact h1
    · have := ih (by omega) (by omega); omega

theorem asc_any (a : Option Addr) (cap : Nat) (l : List Int) (w : World) (hl : l.length ≤ 1048576) (h : Ints w a l) :
    Calls Try.prog 6 #[.slice a l.length cap] w fun e w' => (∃ b, e = .returned (.bool b) ∧ (b = true ↔ Asc l)) ∧ ∃ n, w' = w.drewN n := by
  go_enter Try.func6, Try.ntmps6
  go_wp2
  go_loopw [3] (fun i wr => ∃ k : Nat, 1 ≤ k ∧ (k ≤ l.length ∨ k = 1) ∧ i = .int .i64 k ∧ Hid (∀ j, j + 1 < k → at0 l j < at0 l (j+1)) ∧ ∃ n, wr = w.drewN n) (fun i _ => l.length - (intOf i).toNat)
  case atStart => exact ⟨1, by omega, by omega, rfl, fun j hj => by omega, 0, rfl⟩
  case round =>
    obtain ⟨k, hk1, hk, rfl, A, n, rfl⟩ := hrel
    by_cases hlt : k < l.length
    · obtain ⟨b, off, rfl, hc⟩ := h.get (by omega)
      have h1 := hc (k - 1) (by omega)
      have h2 := hc k (by omega)
      clear hc
      go_wp2
      go_quiet (fail)
      go_wp2
      · go_ret
        refine ⟨⟨false, rfl, ?_⟩, _, drewN_drewN _ _ _⟩
        simp only [Bool.false_eq_true, false_iff]
        intro hA
        have := hA (k - 1) (by omega)
        rw [show k - 1 + 1 = k from by omega] at this
        omega
      · go_roundw
        case rel =>
          refine ⟨k + 1, by omega, by omega, by go_num, ?_, _, rfl⟩
          intro j hj
          by_cases hjk : j + 1 < k
          · exact A.out j hjk
          · have : j = k - 1 := by omega
            subst this
            rw [show k - 1 + 1 = k from by omega]
            assumption
        case measure => simp [intOf]; omega
    · go_wp2
      go_ret
      refine ⟨⟨true, rfl, ?_⟩, _, rfl⟩
      simp only [true_iff]
      intro j hj
      exact A.out j (by omega)

/-- binary search: the answer is an index at which x stands, or -1 and x stands nowhere. -/
theorem find_any (a : Option Addr) (cap : Nat) (l : List Int) (x : Int) (w : World) (hl : l.length ≤ 1048576) (h : Ints w a l) (hA : Asc l) :
    Calls Try.prog 11 #[.slice a l.length cap, .int .i64 x] w fun e w' => (∃ r : Int, e = .returned (.int .i64 r) ∧ ((∃ j : Nat, r = j ∧ j < l.length ∧ at0 l j = x) ∨ (r = -1 ∧ ∀ j, j < l.length → at0 l j ≠ x))) ∧ ∃ n, w' = w.drewN n := by
  go_enter Try.func11, Try.ntmps11
  go_wp2
  go_loopw [5, 6] (fun lo hi wr => ∃ p q : Nat, p ≤ q ∧ q ≤ l.length ∧ lo = .int .i64 p ∧ hi = .int .i64 q ∧ Hid (∀ j, j < p → at0 l j < x) ∧ Hid (∀ j, q ≤ j → j < l.length → x ≤ at0 l j) ∧ ∃ n, wr = w.drewN n) (fun lo hi _ => (intOf hi).toNat - (intOf lo).toNat)
  case atStart => exact ⟨0, l.length, by omega, by omega, rfl, rfl, fun j hj => by omega, fun j hj => by omega, 0, rfl⟩
  case round =>
    obtain ⟨p, q, hpq, hq, rfl, rfl, A, B, n, rfl⟩ := hrel
    by_cases hlt : p < q
    · obtain ⟨b, off, rfl, hc⟩ := h.get (by omega)
      have h1 := hc (p + (q - p) / 2) (by omega)
      clear hc
      go_wp2
      · go_roundw
        case rel =>
          refine ⟨p + (q - p) / 2 + 1, q, by omega, by omega, by go_num, rfl, ?_, B, _, rfl⟩
          intro j hj
          by_cases hj2 : j = p + (q - p) / 2
          · subst hj2; assumption
          · have h3 := asc_lt hA (i := j) (j := p + (q - p) / 2) (by omega) (by omega)
            have h4 : at0 l (p + (q - p) / 2) < x := by assumption
            omega
        case measure => simp [intOf]; omega
      · go_roundw
        case rel =>
          refine ⟨p, p + (q - p) / 2, by omega, by omega, rfl, by go_num, A, ?_, _, rfl⟩
          intro j hj hjl
          by_cases hj2 : j = p + (q - p) / 2
          · subst hj2; assumption
          · have h3 := asc_lt hA (i := p + (q - p) / 2) (j := j) (by omega) (by omega)
            have h4 : x ≤ at0 l (p + (q - p) / 2) := by assumption
            omega
        case measure => simp [intOf]; omega
    · obtain rfl : p = q := by omega
      by_cases hp : p < l.length
      · obtain ⟨b, off, rfl, hc⟩ := h.get (by omega)
        have h1 := hc p (by omega)
        clear hc
        by_cases hx : at0 l p = x
        · have hx2 : (at0 l p == x) = true := by simpa using hx
          have X : Hid (at0 l p = x) := hx
          clear hx
          go_wp2
          go_ret
          exact ⟨⟨_, rfl, .inl ⟨p, rfl, hp, X.out⟩⟩, _, rfl⟩
        · have hx2 : (at0 l p == x) = false := by simpa using hx
          have X : Hid (at0 l p ≠ x) := hx
          clear hx
          go_wp2
          go_ret
          refine ⟨⟨_, rfl, .inr ⟨rfl, fun j hj he => ?_⟩⟩, _, rfl⟩
          rcases Nat.lt_trichotomy j p with h2 | h2 | h2
          · have := A.out j h2; omega
          · subst h2; exact X.out he
          · have h3 := asc_lt hA (i := p) (j := j) (by omega) (by omega)
            have h4 := B.out p (by omega) hp
            omega
      · go_wp2
        go_ret
        refine ⟨⟨_, rfl, .inr ⟨rfl, fun j hj he => ?_⟩⟩, _, rfl⟩
        have := A.out j (by omega)
        omega

end Go.Proofs.Qxb6626217a
