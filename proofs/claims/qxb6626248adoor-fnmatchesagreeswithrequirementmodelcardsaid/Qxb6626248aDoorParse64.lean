import Derived.Test.Qxb6626248aDoorParse
namespace Go.Proofs.Qxb6626248aDoor
open Go.ChangeShapes Go.WideShapes Go.ChangeAt Go.RowKit
set_option linter.unusedVariables false
set_option linter.unusedSimpArgs false

/-- the digits so far -/
def digTo (s : ByteArray) (st k : Nat) : Option Nat := dig 0 ((s.data.toList.drop st).take (k - st))

theorem digTo_split (s : ByteArray) (st k : Nat) (hst : st ≤ k) (hk : k < s.size) (m : Nat) (h : digTo s st k = some m) :
    dig 0 (s.data.toList.drop st) = dig m (s[k] :: s.data.toList.drop (k + 1)) ∧ (48 ≤ s[k].toNat ∧ s[k].toNat ≤ 57 → digTo s st (k + 1) = some (m * 10 + (s[k].toNat - 48))) := by
  have hk' : k < s.data.toList.length := by simpa using hk
  have e0 : s.data.toList.drop k = s[k] :: s.data.toList.drop (k + 1) := by
    rw [List.drop_eq_getElem_cons hk']; rfl
  have e1 : s.data.toList.drop st = (s.data.toList.drop st).take (k - st) ++ s.data.toList.drop k := by
    conv => lhs; rw [← List.take_append_drop (k - st) (s.data.toList.drop st)]
    rw [List.drop_drop, show st + (k - st) = k from by omega]
  unfold digTo at h ⊢
  constructor
  · rw [e1, dig_append, h, e0]; rfl
  · intro hd
    have e2 : (s.data.toList.drop st).take (k + 1 - st) = (s.data.toList.drop st).take (k - st) ++ [s[k]] := by
      rw [show k + 1 - st = (k - st) + 1 from by omega, List.take_succ_eq_append_getElem (by simp; omega)]
      congr 1
      simp only [List.getElem_drop, show st + (k - st) = k from by omega]
      rfl
    rw [e2, dig_append, h]
    simp [dig, hd]

section
variable {l : List UInt8} {bd : List UInt8}
theorem parse_none (hb : body l = bd) (h : ∀ u, dig 0 bd = some u → 9223372036854775808 < u) : parseI l = none := by
  unfold parseI
  rw [hb]
  split
  · rfl
  · cases hd : dig 0 bd with
    | none => rfl
    | some u =>
      have := h u hd
      simp only
      rw [if_neg (show ¬ u ≤ 9223372036854775808 by omega), if_neg (show ¬ u < 9223372036854775808 by omega)]
      split <;> rfl
theorem parse_empty (hb : body l = []) : parseI l = none := by simp [parseI, hb]
theorem parse_pos (hb : body l = bd) (hne : bd ≠ []) (hn : isNeg l = false) {u : Nat} (hd : dig 0 bd = some u) (hu : u < 9223372036854775808) : parseI l = some (u : Int) := by
  simp [parseI, hb, hne, hd, hn, hu]
theorem parse_big (hb : body l = bd) (hne : bd ≠ []) (hn : isNeg l = false) {u : Nat} (hd : dig 0 bd = some u) (hu : ¬ u < 9223372036854775808) : parseI l = none := by
  simp only [parseI, hb, hne, hd, hn, hu, if_false, Bool.false_eq_true]
theorem parse_neg (hb : body l = bd) (hne : bd ≠ []) (hn : isNeg l = true) {u : Nat} (hd : dig 0 bd = some u) (hu : u ≤ 9223372036854775808) : parseI l = some (-(u : Int)) := by
  simp [parseI, hb, hne, hd, hn, hu]
end

theorem list_cons (s : ByteArray) (h : 0 < s.size) : s.data.toList = s[0] :: s.data.toList.drop 1 := by
  have h' : 0 < s.data.toList.length := by simpa using h
  conv => lhs; rw [← List.drop_zero (l := s.data.toList), List.drop_eq_getElem_cons h']
  rfl

theorem ret_pair {a b : Int} {c d : Bool} (h1 : a = b) (h2 : c = d) : Ending.returned (.tuple #[.int .i64 a, .bool c]) = .returned (.tuple #[.int .i64 b, .bool d]) := by rw [h1, h2]
theorem pn {o : Option Int} (h : o = none) : (0 : Int) = o.getD 0 ∧ false = o.isSome := by subst h; exact ⟨rfl, rfl⟩
theorem ps {o : Option Int} {v : Int} (h : o = some v) : v = o.getD 0 ∧ true = o.isSome := by subst h; exact ⟨rfl, rfl⟩


set_option maxRecDepth 100000 in
set_option maxHeartbeats 2000000 in
theorem parse64_minus (s : ByteArray) (w : World) (hs : s.size ≤ 9223372036854775807) (hp : 1 < s.size) (hc : s[0].toNat = 45) :
    Calls Tryd.prog 21 #[.string s] w fun e w' => e = .returned (.tuple #[.int .i64 ((parseI s.data.toList).getD 0), .bool (parseI s.data.toList).isSome]) ∧ w' = w := by
  have hz : ((s.size : Int) == 0) = false := beq_eq_false_iff_ne.2 (by omega)
  have hz2 : ((1 : Int) == (s.size : Int)) = false := beq_eq_false_iff_ne.2 (by omega)
  have p1 : ((s[0].toNat : Int) == 43) = false := by simp; omega
  have p2 : ((s[0].toNat : Int) == 45) = true := by simp; omega
  have hbody : Hid (body s.data.toList = s.data.toList.drop 1) := by
    show body s.data.toList = s.data.toList.drop 1
    rw [list_cons s (by omega)]; simp [body, hc]
  have hneg : Hid (isNeg s.data.toList = true) := by
    show isNeg s.data.toList = true
    rw [list_cons s (by omega)]; simp [isNeg, hc]
  have hne : Hid (s.data.toList.drop 1 ≠ []) := by
    intro h
    have h2 := congrArg List.length h
    have e : s.data.toList.length = s.size := by simp
    rw [List.length_drop, e, List.length_nil] at h2
    omega
  clear hc
  go_enter Tryd.func21, Tryd.ntmps21
  go_wp2
  go_loop [5, 6] (fun x y => ∃ k m : Nat, 1 ≤ k ∧ k ≤ s.size ∧ x = .int .i64 k ∧ y = .int .u64 m ∧ m ≤ 9223372036854775808 ∧ Hid (digTo s 1 k = some m)) (fun x _ => s.size - (intOf x).toNat)
  case atStart => exact ⟨1, 0, by omega, by omega, rfl, rfl, by omega, by simp [Hid, digTo, dig]⟩
  case round =>
    clear hz2
    obtain ⟨k, m, hk0, hk, rfl, rfl, hm, D⟩ := hrel
    by_cases hlt : k < s.size
    · have sp := hide (digTo_split s 1 k hk0 hlt m D.out)
      by_cases hd : 48 ≤ s[k].toNat ∧ s[k].toNat ≤ 57
      · have d1 : (48 : Int) ≤ (s[k].toNat : Int) := by omega
        have d2 : (s[k].toNat : Int) ≤ 57 := by omega
        by_cases hbig : 922337203685477580 < m
        · have R := hide (parse_none (l := s.data.toList) hbody.out (by
            intro u hu
            rw [(unhide sp).1] at hu
            simp only [dig, hd, and_self, if_true] at hu
            have := dig_ge hu
            omega))
          clear hd
          go_wp2
          go_ret2
          exact ⟨ret_pair (pn R.out).1 (pn R.out).2, rfl⟩
        · by_cases hbig2 : 9223372036854775808 < m * 10 + (s[k].toNat - 48)
          · have R := hide (parse_none (l := s.data.toList) hbody.out (by
              intro u hu
              rw [(unhide sp).1] at hu
              simp only [dig, hd, and_self, if_true] at hu
              have := dig_ge hu
              omega))
            have b2 : (9223372036854775808 : Int) < (m : Int) * 10 + ((s[k].toNat : Int) - 48) := by omega
            clear hd hbig2
            go_wp2
            go_ret2
            exact ⟨ret_pair (pn R.out).1 (pn R.out).2, rfl⟩
          · have D2 := hide ((unhide sp).2 hd)
            have b2 : (m : Int) * 10 + ((s[k].toNat : Int) - 48) ≤ 9223372036854775808 := by omega
            clear hd sp
            go_wp2
            go_round
            case rel => exact ⟨k + 1, m * 10 + (s[k].toNat - 48), by omega, by omega, by go_num, by go_num, by omega, D2⟩
            case measure => simp [intOf]; omega
      · have R := hide (parse_none (l := s.data.toList) hbody.out (by
          intro u hu
          rw [(unhide sp).1] at hu
          simp only [dig] at hu
          rw [if_neg hd] at hu
          cases hu))
        by_cases hd1 : s[k].toNat < 48
        · have d1 : (s[k].toNat : Int) < 48 := by omega
          clear hd
          go_wp2
          go_ret2
          exact ⟨ret_pair (pn R.out).1 (pn R.out).2, rfl⟩
        · have d1 : (48 : Int) ≤ (s[k].toNat : Int) := by omega
          have d2 : (57 : Int) < (s[k].toNat : Int) := by omega
          clear hd
          go_wp2
          go_ret2
          exact ⟨ret_pair (pn R.out).1 (pn R.out).2, rfl⟩
    · obtain rfl : k = s.size := by omega
      have D2 : Hid (dig 0 (s.data.toList.drop 1) = some m) := by
        have := D.out
        unfold digTo at this
        rw [List.take_of_length_le (by simp)] at this
        exact this
      by_cases hmx : m < 9223372036854775808
      · have R := hide (parse_neg hbody.out hne.out hneg.out D2.out (by omega))
        go_wp2
        go_ret2
        exact ⟨ret_pair (by rw [(ps R.out).1.symm]) (ps R.out).2, rfl⟩
      · have R := hide (parse_neg hbody.out hne.out hneg.out D2.out (by omega))
        go_wp2
        go_ret2
        exact ⟨ret_pair (by rw [(ps R.out).1.symm]; omega) (ps R.out).2, rfl⟩

set_option maxRecDepth 100000 in
set_option maxHeartbeats 2000000 in
theorem parse64_plus (s : ByteArray) (w : World) (hs : s.size ≤ 9223372036854775807) (hp : 1 < s.size) (hc : s[0].toNat = 43) :
    Calls Tryd.prog 21 #[.string s] w fun e w' => e = .returned (.tuple #[.int .i64 ((parseI s.data.toList).getD 0), .bool (parseI s.data.toList).isSome]) ∧ w' = w := by
  have hz : ((s.size : Int) == 0) = false := beq_eq_false_iff_ne.2 (by omega)
  have hz2 : ((1 : Int) == (s.size : Int)) = false := beq_eq_false_iff_ne.2 (by omega)
  have p1 : ((s[0].toNat : Int) == 43) = true := by simp; omega
  have p2 : ((s[0].toNat : Int) == 45) = false := by simp; omega
  have hbody : Hid (body s.data.toList = s.data.toList.drop 1) := by
    show body s.data.toList = s.data.toList.drop 1
    rw [list_cons s (by omega)]; simp [body, hc]
  have hneg : Hid (isNeg s.data.toList = false) := by
    show isNeg s.data.toList = false
    rw [list_cons s (by omega)]; simp [isNeg, hc]
  have hne : Hid (s.data.toList.drop 1 ≠ []) := by
    intro h
    have h2 := congrArg List.length h
    have e : s.data.toList.length = s.size := by simp
    rw [List.length_drop, e, List.length_nil] at h2
    omega
  clear hc
  go_enter Tryd.func21, Tryd.ntmps21
  go_wp2
  go_loop [5, 6] (fun x y => ∃ k m : Nat, 1 ≤ k ∧ k ≤ s.size ∧ x = .int .i64 k ∧ y = .int .u64 m ∧ m ≤ 9223372036854775808 ∧ Hid (digTo s 1 k = some m)) (fun x _ => s.size - (intOf x).toNat)
  case atStart => exact ⟨1, 0, by omega, by omega, rfl, rfl, by omega, by simp [Hid, digTo, dig]⟩
  case round =>
    clear hz2
    obtain ⟨k, m, hk0, hk, rfl, rfl, hm, D⟩ := hrel
    by_cases hlt : k < s.size
    · have sp := hide (digTo_split s 1 k hk0 hlt m D.out)
      by_cases hd : 48 ≤ s[k].toNat ∧ s[k].toNat ≤ 57
      · have d1 : (48 : Int) ≤ (s[k].toNat : Int) := by omega
        have d2 : (s[k].toNat : Int) ≤ 57 := by omega
        by_cases hbig : 922337203685477580 < m
        · have R := hide (parse_none (l := s.data.toList) hbody.out (by
            intro u hu
            rw [(unhide sp).1] at hu
            simp only [dig, hd, and_self, if_true] at hu
            have := dig_ge hu
            omega))
          clear hd
          go_wp2
          go_ret2
          exact ⟨ret_pair (pn R.out).1 (pn R.out).2, rfl⟩
        · by_cases hbig2 : 9223372036854775808 < m * 10 + (s[k].toNat - 48)
          · have R := hide (parse_none (l := s.data.toList) hbody.out (by
              intro u hu
              rw [(unhide sp).1] at hu
              simp only [dig, hd, and_self, if_true] at hu
              have := dig_ge hu
              omega))
            have b2 : (9223372036854775808 : Int) < (m : Int) * 10 + ((s[k].toNat : Int) - 48) := by omega
            clear hd hbig2
            go_wp2
            go_ret2
            exact ⟨ret_pair (pn R.out).1 (pn R.out).2, rfl⟩
          · have D2 := hide ((unhide sp).2 hd)
            have b2 : (m : Int) * 10 + ((s[k].toNat : Int) - 48) ≤ 9223372036854775808 := by omega
            clear hd sp
            go_wp2
            go_round
            case rel => exact ⟨k + 1, m * 10 + (s[k].toNat - 48), by omega, by omega, by go_num, by go_num, by omega, D2⟩
            case measure => simp [intOf]; omega
      · have R := hide (parse_none (l := s.data.toList) hbody.out (by
          intro u hu
          rw [(unhide sp).1] at hu
          simp only [dig] at hu
          rw [if_neg hd] at hu
          cases hu))
        by_cases hd1 : s[k].toNat < 48
        · have d1 : (s[k].toNat : Int) < 48 := by omega
          clear hd
          go_wp2
          go_ret2
          exact ⟨ret_pair (pn R.out).1 (pn R.out).2, rfl⟩
        · have d1 : (48 : Int) ≤ (s[k].toNat : Int) := by omega
          have d2 : (57 : Int) < (s[k].toNat : Int) := by omega
          clear hd
          go_wp2
          go_ret2
          exact ⟨ret_pair (pn R.out).1 (pn R.out).2, rfl⟩
    · obtain rfl : k = s.size := by omega
      have D2 : Hid (dig 0 (s.data.toList.drop 1) = some m) := by
        have := D.out
        unfold digTo at this
        rw [List.take_of_length_le (by simp)] at this
        exact this
      by_cases hmx : m < 9223372036854775808
      · have R := hide (parse_pos hbody.out hne.out hneg.out D2.out hmx)
        go_wp2
        go_ret2
        exact ⟨ret_pair (by rw [(ps R.out).1.symm]) (ps R.out).2, rfl⟩
      · have R := hide (parse_big hbody.out hne.out hneg.out D2.out hmx)
        go_wp2
        go_ret2
        exact ⟨ret_pair (pn R.out).1 (pn R.out).2, rfl⟩

set_option maxRecDepth 100000 in
set_option maxHeartbeats 2000000 in
theorem parse64_plain (s : ByteArray) (w : World) (hs : s.size ≤ 9223372036854775807) (hp : 0 < s.size) (hc1 : s[0].toNat ≠ 43) (hc2 : s[0].toNat ≠ 45) :
    Calls Tryd.prog 21 #[.string s] w fun e w' => e = .returned (.tuple #[.int .i64 ((parseI s.data.toList).getD 0), .bool (parseI s.data.toList).isSome]) ∧ w' = w := by
  have hz : ((s.size : Int) == 0) = false := beq_eq_false_iff_ne.2 (by omega)
  have hz2 : ((0 : Int) == (s.size : Int)) = false := beq_eq_false_iff_ne.2 (by omega)
  have p1 : ((s[0].toNat : Int) == 43) = false := by simp; omega
  have p2 : ((s[0].toNat : Int) == 45) = false := by simp; omega
  have hbody : Hid (body s.data.toList = s.data.toList.drop 0) := by
    show body s.data.toList = s.data.toList.drop 0
    rw [list_cons s (by omega)]; simp [body, hc1, hc2]
  have hneg : Hid (isNeg s.data.toList = false) := by
    show isNeg s.data.toList = false
    rw [list_cons s (by omega)]; simp [isNeg, hc2]
  have hne : Hid (s.data.toList.drop 0 ≠ []) := by
    intro h
    have h2 := congrArg List.length h
    have e : s.data.toList.length = s.size := by simp
    rw [List.length_drop, e, List.length_nil] at h2
    omega
  clear hc1 hc2
  go_enter Tryd.func21, Tryd.ntmps21
  go_wp2
  go_loop [5, 6] (fun x y => ∃ k m : Nat, 0 ≤ k ∧ k ≤ s.size ∧ x = .int .i64 k ∧ y = .int .u64 m ∧ m ≤ 9223372036854775808 ∧ Hid (digTo s 0 k = some m)) (fun x _ => s.size - (intOf x).toNat)
  case atStart => exact ⟨0, 0, by omega, by omega, rfl, rfl, by omega, by simp [Hid, digTo, dig]⟩
  case round =>
    clear hz2
    obtain ⟨k, m, hk0, hk, rfl, rfl, hm, D⟩ := hrel
    by_cases hlt : k < s.size
    · have sp := hide (digTo_split s 0 k hk0 hlt m D.out)
      by_cases hd : 48 ≤ s[k].toNat ∧ s[k].toNat ≤ 57
      · have d1 : (48 : Int) ≤ (s[k].toNat : Int) := by omega
        have d2 : (s[k].toNat : Int) ≤ 57 := by omega
        by_cases hbig : 922337203685477580 < m
        · have R := hide (parse_none (l := s.data.toList) hbody.out (by
            intro u hu
            rw [(unhide sp).1] at hu
            simp only [dig, hd, and_self, if_true] at hu
            have := dig_ge hu
            omega))
          clear hd
          go_wp2
          go_ret2
          exact ⟨ret_pair (pn R.out).1 (pn R.out).2, rfl⟩
        · by_cases hbig2 : 9223372036854775808 < m * 10 + (s[k].toNat - 48)
          · have R := hide (parse_none (l := s.data.toList) hbody.out (by
              intro u hu
              rw [(unhide sp).1] at hu
              simp only [dig, hd, and_self, if_true] at hu
              have := dig_ge hu
              omega))
            have b2 : (9223372036854775808 : Int) < (m : Int) * 10 + ((s[k].toNat : Int) - 48) := by omega
            clear hd hbig2
            go_wp2
            go_ret2
            exact ⟨ret_pair (pn R.out).1 (pn R.out).2, rfl⟩
          · have D2 := hide ((unhide sp).2 hd)
            have b2 : (m : Int) * 10 + ((s[k].toNat : Int) - 48) ≤ 9223372036854775808 := by omega
            clear hd sp
            go_wp2
            go_round
            case rel => exact ⟨k + 1, m * 10 + (s[k].toNat - 48), by omega, by omega, by go_num, by go_num, by omega, D2⟩
            case measure => simp [intOf]; omega
      · have R := hide (parse_none (l := s.data.toList) hbody.out (by
          intro u hu
          rw [(unhide sp).1] at hu
          simp only [dig] at hu
          rw [if_neg hd] at hu
          cases hu))
        by_cases hd1 : s[k].toNat < 48
        · have d1 : (s[k].toNat : Int) < 48 := by omega
          clear hd
          go_wp2
          go_ret2
          exact ⟨ret_pair (pn R.out).1 (pn R.out).2, rfl⟩
        · have d1 : (48 : Int) ≤ (s[k].toNat : Int) := by omega
          have d2 : (57 : Int) < (s[k].toNat : Int) := by omega
          clear hd
          go_wp2
          go_ret2
          exact ⟨ret_pair (pn R.out).1 (pn R.out).2, rfl⟩
    · obtain rfl : k = s.size := by omega
      have D2 : Hid (dig 0 (s.data.toList.drop 0) = some m) := by
        have := D.out
        unfold digTo at this
        rw [List.take_of_length_le (by simp)] at this
        exact this
      by_cases hmx : m < 9223372036854775808
      · have R := hide (parse_pos hbody.out hne.out hneg.out D2.out hmx)
        go_wp2
        go_ret2
        exact ⟨ret_pair (by rw [(ps R.out).1.symm]) (ps R.out).2, rfl⟩
      · have R := hide (parse_big hbody.out hne.out hneg.out D2.out hmx)
        go_wp2
        go_ret2
        exact ⟨ret_pair (pn R.out).1 (pn R.out).2, rfl⟩

theorem parse64_any (s : ByteArray) (w : World) (hs : s.size ≤ 9223372036854775807) :
    Calls Tryd.prog 21 #[.string s] w fun e w' => e = .returned (.tuple #[.int .i64 ((parseI s.data.toList).getD 0), .bool (parseI s.data.toList).isSome]) ∧ w' = w := by
  by_cases h0 : s.size = 0
  · have hl : s.data.toList = [] := List.eq_nil_of_length_eq_zero (by simpa using h0)
    have R := hide (parse_empty (l := s.data.toList) (by rw [hl]; rfl))
    have hz : ((s.size : Int) == 0) = true := by simp [h0]
    clear h0 hl
    go_enter Tryd.func21, Tryd.ntmps21
    go_wp2
    go_ret2
    exact ⟨ret_pair (pn R.out).1 (pn R.out).2, rfl⟩
  · by_cases hsg : s[0].toNat = 43 ∨ s[0].toNat = 45
    · by_cases h1 : s.size = 1
      · have R := hide (parse_empty (l := s.data.toList) (by
          rw [list_cons s (by omega)]
          simp only [body, hsg, if_true]
          exact List.eq_nil_of_length_eq_zero (by simp; omega)))
        have hz : ((s.size : Int) == 0) = false := beq_eq_false_iff_ne.2 (by omega)
        have hz2 : ((1 : Int) == (s.size : Int)) = true := beq_iff_eq.2 (by omega)
        have hp : 0 < s.size := by omega
        rcases hsg with hc | hc
        · have p1 : ((s[0].toNat : Int) == 43) = true := by simp; omega
          have p2 : ((s[0].toNat : Int) == 45) = false := by simp; omega
          clear hc
          go_enter Tryd.func21, Tryd.ntmps21
          go_wp2
          go_ret2
          exact ⟨ret_pair (pn R.out).1 (pn R.out).2, rfl⟩
        · have p1 : ((s[0].toNat : Int) == 43) = false := by simp; omega
          have p2 : ((s[0].toNat : Int) == 45) = true := by simp; omega
          clear hc
          go_enter Tryd.func21, Tryd.ntmps21
          go_wp2
          go_ret2
          exact ⟨ret_pair (pn R.out).1 (pn R.out).2, rfl⟩
      · rcases hsg with hc | hc
        · exact parse64_plus s w hs (by omega) hc
        · exact parse64_minus s w hs (by omega) hc
    · exact parse64_plain s w hs (by omega) (fun h => hsg (.inl h)) (fun h => hsg (.inr h))
end Go.Proofs.Qxb6626248aDoor
