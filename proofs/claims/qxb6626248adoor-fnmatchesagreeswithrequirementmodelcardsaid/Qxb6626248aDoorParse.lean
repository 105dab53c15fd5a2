import Derived.Test.Qxb6626248aDoorData
namespace Go.Proofs.Qxb6626248aDoor
open Go.ChangeShapes Go.WideShapes Go.ChangeAt Go.RowKit
set_option linter.unusedVariables false
set_option linter.unusedSimpArgs false

/-- what the digits of l spell behind acc -/
def dig : Nat → List UInt8 → Option Nat
  | acc, [] => some acc
  | acc, c :: r => if 48 ≤ c.toNat ∧ c.toNat ≤ 57 then dig (acc * 10 + (c.toNat - 48)) r else none
def body : List UInt8 → List UInt8
  | [] => []
  | c :: r => if c.toNat = 43 ∨ c.toNat = 45 then r else c :: r
def isNeg : List UInt8 → Bool
  | [] => false
  | c :: _ => decide (c.toNat = 45)
/-- a base-10 int64, or none -/
def parseI (l : List UInt8) : Option Int :=
  if body l = [] then none else
  match dig 0 (body l) with
  | none => none
  | some u => if isNeg l = true then (if u ≤ 9223372036854775808 then some (-(u : Int)) else none) else (if u < 9223372036854775808 then some (u : Int) else none)

theorem dig_append (a b : List UInt8) (acc : Nat) : dig acc (a ++ b) = (dig acc a).bind (fun u => dig u b) := by
  induction a generalizing acc with
  | nil => rfl
  | cons c r ih =>
    simp only [List.cons_append, dig]
    split
    · rw [ih]
    · rfl
theorem dig_ge {l : List UInt8} {acc u : Nat} (h : dig acc l = some u) : acc ≤ u := by
  induction l generalizing acc with
  | nil => simp [dig] at h; omega
  | cons c r ih =>
    simp only [dig] at h
    split at h
    · have := ih h; omega
    · cases h

theorem uintM_dig (M : Nat) (hM : M = 18446744073709551615) : ∀ (l : List UInt8) (acc : Nat), acc ≤ M →
    (∀ u, Lib.parseUintM M acc l = .ok u → dig acc l = some u ∧ u ≤ M) ∧ ((∀ u, Lib.parseUintM M acc l ≠ .ok u) → ∀ u, dig acc l = some u → M < u)
  | [], acc, ha => by
    constructor
    · intro u h; simp only [Lib.parseUintM] at h; injection h with h; subst h; exact ⟨rfl, ha⟩
    · intro h; exact absurd rfl (h acc)
  | c :: r, acc, ha => by
    simp only [Lib.parseUintM, dig]
    by_cases hd : 48 ≤ c.toNat ∧ c.toNat ≤ 57
    · rw [if_pos hd, if_pos hd]
      by_cases h1 : 1844674407370955162 ≤ acc
      · rw [if_pos h1]
        refine ⟨fun u h => (by cases h), fun _ u h => ?_⟩
        have := dig_ge h; omega
      · rw [if_neg h1]
        by_cases h2 : M < acc * 10 + (c.toNat - 48)
        · rw [if_pos h2]
          refine ⟨fun u h => (by cases h), fun _ u h => ?_⟩
          have := dig_ge h; omega
        · rw [if_neg h2]
          exact uintM_dig M hM r _ (by omega)
    · rw [if_neg hd, if_neg hd]
      exact ⟨fun u h => (by cases h), fun _ u h => (by cases h)⟩

theorem parse_lib (l : List UInt8) : ∀ v, Lib.parseIntB 64 l = .ok v ↔ parseI l = some v := by
  intro v
  cases l with
  | nil => simp [Lib.parseIntB, parseI, body]
  | cons c r =>
    have hb : (if c.toNat = 43 ∨ c.toNat = 45 then r else c :: r) = body (c :: r) := rfl
    simp only [Lib.parseIntB, hb, parseI]
    generalize hB : body (c :: r) = bd
    by_cases hbe : bd = []
    · subst hbe
      simp [Lib.parseUintB]
    · rw [if_neg hbe]
      have e1 : Lib.parseUintB 64 bd = Lib.parseUintM (2 ^ 64 - 1) 0 bd := by simp [Lib.parseUintB, hbe]
      rw [e1]
      obtain ⟨k1, k2⟩ := uintM_dig (2 ^ 64 - 1) (by omega) bd 0 (by omega)
      have hn : isNeg (c :: r) = decide (c.toNat = 45) := rfl
      rw [hn]
      have no : (∀ u, Lib.parseUintM (2 ^ 64 - 1) 0 bd ≠ .ok u) → (match dig 0 bd with | none => none | some u => if decide (c.toNat = 45) = true then (if u ≤ 9223372036854775808 then some (-(u : Int)) else none) else (if u < 9223372036854775808 then some (u : Int) else none)) = none := by
        intro h
        cases hd : dig 0 bd with
        | none => rfl
        | some u =>
          have := k2 h u hd
          simp only
          rw [if_neg (show ¬ u ≤ 9223372036854775808 by omega), if_neg (show ¬ u < 9223372036854775808 by omega)]
          split <;> rfl
      cases hp : Lib.parseUintM (2 ^ 64 - 1) 0 bd
      case ok u =>
        obtain ⟨h1, h2⟩ := k1 u hp
        rw [h1]
        simp only [Nat.reduceSub, Nat.reducePow]
        by_cases hneg : c.toNat = 45
        · simp only [hneg, not_true_eq_false, false_and, if_false, true_and, decide_true, if_true]
          by_cases hu : u ≤ 9223372036854775808
          · rw [if_neg (by omega), if_pos hu]; simp
          · rw [if_pos (by omega), if_neg hu]; simp
        · simp only [hneg, not_false_eq_true, true_and, if_false, false_and, decide_false, Bool.false_eq_true]
          by_cases hu : u < 9223372036854775808
          · rw [if_neg (by omega), if_pos hu]; simp
          · rw [if_pos (by omega), if_neg hu]; simp
      all_goals
        rw [no (fun u h => by rw [hp] at h; cases h)]
        simp

/-- strconv.ParseInt(s, 10, 64) -/
theorem parseInt_any (s : ByteArray) (w : World) (hs : s.size ≤ 281474976710656) (v1 v2 : Value) (h1 : w.cell? ⟨0, 0, none⟩ = some v1) (k1 : v1 = .nilIface ∨ ∃ t p, v1 = .iface t p) (h2 : w.cell? ⟨1, 0, none⟩ = some v2) (k2 : v2 = .nilIface ∨ ∃ t p, v2 = .iface t p) :
    Calls Tryd.prog 19 #[.string s, .int .i64 10, .int .i64 64] w fun e w' => (∃ v err, e = .returned (.tuple #[.int .i64 v, err]) ∧ ((parseI s.data.toList = some v ∧ err = .nilIface) ∨ (parseI s.data.toList = none ∧ ∃ t p, err = .iface t p))) ∧ Below w.heap.size w w' := by
  have key := parse_lib s.data.toList
  have no : (∀ v, Lib.parseIntB 64 s.data.toList ≠ .ok v) → parseI s.data.toList = none := by
    intro h
    cases hp : parseI s.data.toList with
    | none => rfl
    | some v => exact absurd ((key v).2 hp) (h v)
  cases hp : Lib.parseIntB 64 s.data.toList
  case ok v =>
    refine (Any.strconv_ParseInt_10_at64_ok Tryd.lays174 s (by omega) v hp w).mono ?_
    rintro e w' ⟨rfl, hw⟩
    refine ⟨⟨v, .nilIface, rfl, .inl ⟨(key v).1 hp, rfl⟩⟩, ?_⟩
    rcases hw with rfl | ⟨t, rfl⟩
    · exact Below.refl _ _
    · exact Lib.bytesWorld_below _ _ _
  case range =>
    refine (Any.strconv_ParseInt_10_at64_range Tryd.lays174 s hs hp v2 w h2 k2).mono ?_
    rintro e w' ⟨N, rfl, _, _, hb⟩
    exact ⟨⟨_, _, rfl, .inr ⟨no (fun v h => by rw [hp] at h; cases h), _, _, rfl⟩⟩, hb⟩
  all_goals
    refine (Any.strconv_ParseInt_10_at64_syntax Tryd.lays174 s hs hp v1 w h1 k1).mono ?_
    rintro e w' ⟨N, rfl, _, _, hb⟩
    exact ⟨⟨_, _, rfl, .inr ⟨no (fun v h => by rw [hp] at h; cases h), _, _, rfl⟩⟩, hb⟩
end Go.Proofs.Qxb6626248aDoor
