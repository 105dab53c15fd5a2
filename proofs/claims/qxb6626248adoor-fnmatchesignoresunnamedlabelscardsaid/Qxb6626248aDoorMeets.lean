import Derived.Test.Qxb6626248aDoorParse64
namespace Go.Proofs.Qxb6626248aDoor
open Go.ChangeShapes Go.WideShapes Go.ChangeAt Go.RowKit
set_option linter.unusedVariables false
set_option linter.unusedSimpArgs false

def hasS (l : List ByteArray) (s : ByteArray) : Bool := l.any (fun x => decide (x = s))
theorem hasS_iff (l : List ByteArray) (s : ByteArray) : hasS l s = true ↔ s ∈ l := by
  simp [hasS]

theorem strAt_mem {l : List ByteArray} {i : Nat} (h : i < l.length) : strAt l i ∈ l := by
  unfold strAt
  rw [List.getElem?_eq_getElem h]
  simp
theorem mem_strAt {l : List ByteArray} {s : ByteArray} (h : s ∈ l) : ∃ i, i < l.length ∧ strAt l i = s := by
  obtain ⟨i, hi, e⟩ := List.mem_iff_getElem.1 h
  exact ⟨i, hi, by simp [strAt, List.getElem?_eq_getElem hi, e]⟩

theorem beqB (a b : ByteArray) : (a.toList == b.toList) = decide (a = b) := by
  rw [ByteArray.toList_eq, ByteArray.toList_eq]
  by_cases h : a = b
  · subst h; simp
  · have : a.data.toList ≠ b.data.toList := fun e => h (WideShapes.bytes_inj e)
    rw [beq_eq_false_iff_ne.2 this]
    simp [h]

theorem ret_bool {a b : Bool} (h : a = b) : Ending.returned (.bool a) = .returned (.bool b) := by rw [h]

theorem has_any (a : Option Addr) (c : Nat) (l : List ByteArray) (s : ByteArray) (w : World) (hl : l.length ≤ 9223372036854775807) (h : Strs w a l) :
    Calls Tryd.prog 20 #[.slice a l.length c, .string s] w fun e w' => e = .returned (.bool (hasS l s)) ∧ w' = w := by
  go_enter Tryd.func20, Tryd.ntmps20
  go_wp2
  go_loop [5] (fun x => ∃ k : Nat, k ≤ l.length ∧ x = .int .i64 k ∧ Hid (∀ j, j < k → strAt l j ≠ s)) (fun x => l.length - (intOf x).toNat)
  case atStart => exact ⟨0, Nat.zero_le _, rfl, fun j hj => by omega⟩
  case round =>
    obtain ⟨k, hk, rfl, A⟩ := hrel
    by_cases hkl : k < l.length
    · obtain ⟨b, off, rfl, hc⟩ := h.get (by omega)
      have d := hc k hkl
      clear hc
      by_cases he : strAt l k = s
      · have hb : ((strAt l k).toList == s.toList) = true := by rw [beqB]; simpa using he
        have R := hide ((hasS_iff l s).2 (he ▸ strAt_mem hkl))
        clear he
        go_wp2
        go_ret
        exact ⟨ret_bool R.out.symm, rfl⟩
      · have hb : ((strAt l k).toList == s.toList) = false := by rw [beqB]; simpa using he
        have R := hide he
        clear he
        go_wp2
        go_round
        case rel =>
          refine ⟨k + 1, by omega, by go_num, fun j hj => ?_⟩
          by_cases hjk : j = k
          · subst hjk; exact R.out
          · exact A.out j (by omega)
        case measure => simp [intOf]; omega
    · have R : Hid (hasS l s = false) := by
        show hasS l s = false
        rw [Bool.eq_false_iff]
        intro h2
        obtain ⟨i, hi, e⟩ := mem_strAt ((hasS_iff l s).1 h2)
        exact A.out i (by omega) e
      go_wp2
      go_ret
      exact ⟨ret_bool R.out.symm, rfl⟩

/-- does a label with this value (none: it is not there) meet q? -/
def meets (q : Req) : Option ByteArray → Bool
  | none => !q.pres
  | some s => !q.abst && !hasS q.ex s && (!q.aset || hasS q.al s) && (!(q.hasLo || q.hasUp) || match parseI s.data.toList with | none => false | some n => (!q.hasLo || decide (q.lo < n)) && (!q.hasUp || decide (n < q.up)))

def reqVal (q : Req) : Value := .agg #[.string q.key, .bool q.pres, .bool q.abst, .bool q.aset, .slice q.alA q.al.length q.alC, .slice q.exA q.ex.length q.exC, .bool q.hasLo, .int .i64 q.lo, .bool q.hasUp, .int .i64 q.up]

theorem meets_none (q : Req) (s : ByteArray) (w : World) :
    Calls Tryd.prog 17 #[reqVal q, .string s, .bool false] w fun e w' => e = .returned (.bool (meets q none)) ∧ Below w.heap.size w w' := by
  unfold reqVal meets
  go_enter Tryd.func17, Tryd.ntmps17
  go_wp2
  go_ret
  exact ⟨rfl, (Below.refl _ _).alloc (Nat.le_refl _) _⟩

set_option maxRecDepth 100000 in
set_option maxHeartbeats 2000000 in
theorem meets_some (q : Req) (s : ByteArray) (w : World) (hs : s.size ≤ 9223372036854775807) (la : q.al.length ≤ 9223372036854775807) (le : q.ex.length ≤ 9223372036854775807) (ha : Strs w q.alA q.al) (he : Strs w q.exA q.ex) :
    Calls Tryd.prog 17 #[reqVal q, .string s, .bool true] w fun e w' => e = .returned (.bool (meets q (some s))) ∧ Below w.heap.size w w' := by
  obtain ⟨key, pres, abst, aset, alA, alC, al, exA, exC, ex, hasLo, lo, hasUp, up⟩ := q
  simp only [reqVal] at *
  obtain ⟨r, hr⟩ : ∃ r, r = meets ⟨key, pres, abst, aset, alA, alC, al, exA, exC, ex, hasLo, lo, hasUp, up⟩ (some s) := ⟨_, rfl⟩
  rw [← hr]
  have HR := hide hr
  clear hr
  have B0 : ∀ o, Below w.heap.size w (w.alloc o) := fun o => (Below.refl _ _).alloc (Nat.le_refl _) _
  cases abst with
  | true =>
    go_enter Tryd.func17, Tryd.ntmps17
    go_wp2
    go_ret
    exact ⟨ret_bool (by rw [HR.out]; simp [meets]), B0 _⟩
  | false =>
    go_enter Tryd.func17, Tryd.ntmps17
    go_wp2_with fail
    refine (has_any exA exC ex s _ le (he.below (B0 _))).mono ?_
    rintro e w' ⟨rfl, hw⟩
    subst w'
    cases hb1 : hasS ex s with
    | true =>
      have H1 := hide hb1
      clear hb1
      go_wp2
      go_ret
      exact ⟨ret_bool (by rw [HR.out]; simp [meets, H1.out]), B0 _⟩
    | false =>
      have H1 := hide hb1
      clear hb1
      cases aset with
      | true =>
        go_wp2_with fail
        refine (has_any alA alC al s _ la (ha.below (B0 _))).mono ?_
        rintro e w' ⟨rfl, hw⟩
        subst w'
        cases hb2 : hasS al s with
        | false =>
          have H2 := hide hb2
          clear hb2
          go_wp2
          go_ret
          exact ⟨ret_bool (by rw [HR.out]; simp [meets, H1.out, H2.out]), B0 _⟩
        | true =>
          have H2 := hide hb2
          clear hb2
          cases hasLo with
          | false =>
            cases hasUp with
            | false =>
              go_wp2
              go_ret
              exact ⟨ret_bool (by rw [HR.out]; simp [meets, H1.out, H2.out]), B0 _⟩
            | true =>
              go_wp2_with fail
              refine (parse64_any s _ hs).mono ?_
              rintro e w' ⟨rfl, hw⟩
              subst w'
              cases hp : parseI s.data.toList with
              | none =>
                have HP := hide hp
                clear hp
                go_wp2
                go_ret
                exact ⟨ret_bool (by rw [HR.out]; simp [meets, H1.out, H2.out, HP.out]), B0 _⟩
              | some m =>
                have HP := hide hp
                clear hp
                simp only [Option.getD_some, Option.isSome_some]
                by_cases h2 : m < up
                · have N2 := hide (decide_eq_true h2)
                  go_wp2
                  go_ret
                  exact ⟨ret_bool (by rw [HR.out]; simp [meets, H1.out, H2.out, HP.out, N2.out]), B0 _⟩
                · have N2 := hide (decide_eq_false h2)
                  go_wp2
                  go_ret
                  exact ⟨ret_bool (by rw [HR.out]; simp [meets, H1.out, H2.out, HP.out, N2.out]), B0 _⟩
          | true =>
            go_wp2_with fail
            refine (parse64_any s _ hs).mono ?_
            rintro e w' ⟨rfl, hw⟩
            subst w'
            cases hp : parseI s.data.toList with
            | none =>
              have HP := hide hp
              clear hp
              go_wp2
              go_ret
              exact ⟨ret_bool (by rw [HR.out]; simp [meets, H1.out, H2.out, HP.out]), B0 _⟩
            | some m =>
              have HP := hide hp
              clear hp
              simp only [Option.getD_some, Option.isSome_some]
              by_cases h1 : lo < m
              · have N1 := hide (decide_eq_true h1)
                cases hasUp with
                | false =>
                  go_wp2
                  go_ret
                  exact ⟨ret_bool (by rw [HR.out]; simp [meets, H1.out, H2.out, HP.out, N1.out]), B0 _⟩
                | true =>
                  by_cases h2 : m < up
                  · have N2 := hide (decide_eq_true h2)
                    go_wp2
                    go_ret
                    exact ⟨ret_bool (by rw [HR.out]; simp [meets, H1.out, H2.out, HP.out, N1.out, N2.out]), B0 _⟩
                  · have N2 := hide (decide_eq_false h2)
                    go_wp2
                    go_ret
                    exact ⟨ret_bool (by rw [HR.out]; simp [meets, H1.out, H2.out, HP.out, N1.out, N2.out]), B0 _⟩
              · have N1 := hide (decide_eq_false h1)
                go_wp2
                go_ret
                exact ⟨ret_bool (by rw [HR.out]; simp [meets, H1.out, H2.out, HP.out, N1.out]), B0 _⟩
      | false =>
        cases hasLo with
        | false =>
          cases hasUp with
          | false =>
            go_wp2
            go_ret
            exact ⟨ret_bool (by rw [HR.out]; simp [meets, H1.out]), B0 _⟩
          | true =>
            go_wp2_with fail
            refine (parse64_any s _ hs).mono ?_
            rintro e w' ⟨rfl, hw⟩
            subst w'
            cases hp : parseI s.data.toList with
            | none =>
              have HP := hide hp
              clear hp
              go_wp2
              go_ret
              exact ⟨ret_bool (by rw [HR.out]; simp [meets, H1.out, HP.out]), B0 _⟩
            | some m =>
              have HP := hide hp
              clear hp
              simp only [Option.getD_some, Option.isSome_some]
              by_cases h2 : m < up
              · have N2 := hide (decide_eq_true h2)
                go_wp2
                go_ret
                exact ⟨ret_bool (by rw [HR.out]; simp [meets, H1.out, HP.out, N2.out]), B0 _⟩
              · have N2 := hide (decide_eq_false h2)
                go_wp2
                go_ret
                exact ⟨ret_bool (by rw [HR.out]; simp [meets, H1.out, HP.out, N2.out]), B0 _⟩
        | true =>
          go_wp2_with fail
          refine (parse64_any s _ hs).mono ?_
          rintro e w' ⟨rfl, hw⟩
          subst w'
          cases hp : parseI s.data.toList with
          | none =>
            have HP := hide hp
            clear hp
            go_wp2
            go_ret
            exact ⟨ret_bool (by rw [HR.out]; simp [meets, H1.out, HP.out]), B0 _⟩
          | some m =>
            have HP := hide hp
            clear hp
            simp only [Option.getD_some, Option.isSome_some]
            by_cases h1 : lo < m
            · have N1 := hide (decide_eq_true h1)
              cases hasUp with
              | false =>
                go_wp2
                go_ret
                exact ⟨ret_bool (by rw [HR.out]; simp [meets, H1.out, HP.out, N1.out]), B0 _⟩
              | true =>
                by_cases h2 : m < up
                · have N2 := hide (decide_eq_true h2)
                  go_wp2
                  go_ret
                  exact ⟨ret_bool (by rw [HR.out]; simp [meets, H1.out, HP.out, N1.out, N2.out]), B0 _⟩
                · have N2 := hide (decide_eq_false h2)
                  go_wp2
                  go_ret
                  exact ⟨ret_bool (by rw [HR.out]; simp [meets, H1.out, HP.out, N1.out, N2.out]), B0 _⟩
            · have N1 := hide (decide_eq_false h1)
              go_wp2
              go_ret
              exact ⟨ret_bool (by rw [HR.out]; simp [meets, H1.out, HP.out, N1.out]), B0 _⟩
end Go.Proofs.Qxb6626248aDoor
