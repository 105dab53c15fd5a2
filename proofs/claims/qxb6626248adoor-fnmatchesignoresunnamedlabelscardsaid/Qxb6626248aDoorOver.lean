import Derived.Test.Qxb6626248aDoorBytes
namespace Go.Proofs.Qxb6626248aDoor
open Go.ChangeShapes Go.WideShapes Go.ChangeAt Go.RowKit
set_option linter.unusedVariables false
set_option linter.unusedSimpArgs false

def AddRes (t n : Int) (e : Ending) : Prop := e = .returned (.tuple #[.int .i64 t, .bool true]) ∨ (e = .returned (.tuple #[.int .i64 (t + n), .bool false]) ∧ t + n ≤ 1048576)
theorem add_any (t n : Int) (w : World) (h0 : 0 ≤ t) (h1 : t ≤ 1048576) (hn : 0 ≤ n) :
    Calls Tryd.prog 12 #[.int .i64 t, .int .i64 n] w fun e w' => AddRes t n e ∧ w' = w := by
  by_cases h : 1048576 - t < n
  · have hd : decide (n < 0) = false := decide_eq_false (by omega)
    go_enter Tryd.func12, Tryd.ntmps12
    go_wp2
    go_ret2
    exact ⟨.inl rfl, rfl⟩
  · have hd : decide (n < 0) = false := decide_eq_false (by omega)
    have hd2 : decide (1048576 - t < n) = false := decide_eq_false (by omega)
    go_enter Tryd.func12, Tryd.ntmps12
    go_wp2
    go_ret2
    exact ⟨.inr ⟨rfl, by omega⟩, rfl⟩

def AddSRes (s : ByteArray) (e : Ending) : Prop := (∃ t, e = .returned (.tuple #[.int .i64 t, .bool true])) ∨ (∃ t : Int, e = .returned (.tuple #[.int .i64 t, .bool false]) ∧ 0 ≤ t ∧ t ≤ 1048576 ∧ s.size ≤ 1048576)
theorem addStr_any (t : Int) (s : ByteArray) (w : World) (h0 : 0 ≤ t) (h1 : t ≤ 1048576) :
    Calls Tryd.prog 13 #[.int .i64 t, .string s] w fun e w' => AddSRes s e ∧ w' = w := by
  go_enter Tryd.func13, Tryd.ntmps13
  go_wp2_with fail
  refine (add_any t 16 w h0 h1 (by omega)).mono ?_
  rintro e w' ⟨hr, hw⟩
  subst w'
  rcases hr with rfl | ⟨rfl, h2⟩
  · go_wp2
    go_ret2
    exact ⟨.inl ⟨_, rfl⟩, rfl⟩
  · go_wp2_with fail
    refine (add_any (t + 16) (s.size : Int) w (by omega) (by omega) (by omega)).mono ?_
    rintro e w' ⟨hr, hw⟩
    subst w'
    rcases hr with rfl | ⟨rfl, h3⟩
    · go_wp2
      go_ret2
      exact ⟨.inl ⟨_, rfl⟩, rfl⟩
    · go_wp2
      go_ret2
      exact ⟨.inr ⟨_, rfl, by omega, by omega, by omega⟩, rfl⟩

def OverRes (l l2 : Labels) (e : Ending) : Prop := e = .returned (.bool true) ∨ (e = .returned (.bool false) ∧ (∀ i, i < l.length → (lvA l i).size ≤ 1048576) ∧ ∀ i, i < l2.length → (lvA l2 i).size ≤ 1048576)
set_option maxRecDepth 100000 in
set_option maxHeartbeats 4000000 in
theorem over_any (a : Option Addr) (c : Nat) (rs : List Req) (a1 : Option Addr) (c1 : Nat) (l : Labels) (a2 : Option Addr) (c2 : Nat) (l2 : Labels) (w : World) (hl : rs.length ≤ 9223372036854775807) (hl1 : l.length ≤ 9223372036854775807) (hl2 : l2.length ≤ 9223372036854775807) (h : Reqs w a rs) (h1 : Labs w a1 l) (h2 : Labs w a2 l2) :
    Calls Tryd.prog 6 #[.slice a rs.length c, .slice a1 l.length c1, .slice a2 l2.length c2] w fun e w' => OverRes l l2 e ∧ w' = w := by
  by_cases hb : rs.length ≤ 65536 ∧ l.length ≤ 65536 ∧ l2.length ≤ 65536
  · obtain ⟨g0, g1, g2⟩ := hb
    have q0 : decide ((65536 : Int) < (rs.length : Int)) = false := decide_eq_false (by omega)
    have q1 : decide ((65536 : Int) < (l.length : Int)) = false := decide_eq_false (by omega)
    have q2 : decide ((65536 : Int) < (l2.length : Int)) = false := decide_eq_false (by omega)
    go_enter Tryd.func6, Tryd.ntmps6
    go_wp2
    clear q0 q1 q2
    go_loop [7, 8, 9] (fun x y z => ∃ (t : Int) (bb : Bool) (k : Nat), x = .int .i64 t ∧ y = .bool bb ∧ z = .int .i64 k ∧ 0 ≤ t ∧ t ≤ 1048576 ∧ k ≤ rs.length) (fun _ _ z => rs.length - (intOf z).toNat)
    case atStart => exact ⟨_, _, 0, rfl, rfl, rfl, by omega, by omega, Nat.zero_le _⟩
    case round =>
      obtain ⟨t, bb, k, rfl, rfl, rfl, ht0, ht1, hk⟩ := hrel
      by_cases hkl : k < rs.length
      · obtain ⟨b, off, rfl, hc⟩ := h.get (by omega)
        have R := hc k hkl
        clear hc
        obtain ⟨q, hq⟩ : ∃ q, q = rqA rs k := ⟨_, rfl⟩
        rw [← hq] at R
        have c0 := R.c0
        have c4 := R.c4
        have c5 := R.c5
        have la := R.lal
        have le := R.lex
        clear hq
        go_wp2_with fail
        refine (add_any t 64 w ht0 ht1 (by omega)).mono ?_
        rintro e w' ⟨hr, hw⟩
        subst w'
        rcases hr with rfl | ⟨rfl, hi1⟩
        · go_wp2
          go_ret
          exact ⟨.inl rfl, rfl⟩
        · go_wp2_with fail
          refine (addStr_any (t + 64) q.key w (by omega) (by omega)).mono ?_
          rintro e w' ⟨hr, hw⟩
          subst w'
          rcases hr with ⟨tt, rfl⟩ | ⟨t2, rfl, lo2, hi2, sz2⟩
          · go_wp2
            go_ret
            exact ⟨.inl rfl, rfl⟩
          · go_wp2
            go_loop [7, 8, 10] (fun x y z => ∃ (t : Int) (bb : Bool) (j : Nat), x = .int .i64 t ∧ y = .bool bb ∧ z = .int .i64 j ∧ 0 ≤ t ∧ t ≤ 1048576 ∧ j ≤ q.al.length) (fun _ _ z => q.al.length - (intOf z).toNat)
            case atStart => exact ⟨_, _, 0, rfl, rfl, rfl, by omega, by omega, Nat.zero_le _⟩
            case round =>
              obtain ⟨t, bb, j, rfl, rfl, rfl, ht0, ht1, hj⟩ := hrel
              by_cases hjl : j < q.al.length
              · obtain ⟨eb, eo, hea, hec⟩ := R.sal.get (by omega)
                have es := hec j hjl
                clear hec
                rw [hea] at c4
                go_wp2_with fail
                refine (addStr_any t (strAt q.al j) w ht0 ht1).mono ?_
                rintro e w' ⟨hr, hw⟩
                subst w'
                rcases hr with ⟨tt, rfl⟩ | ⟨t3, rfl, lo3, hi3, sz3⟩
                · go_wp2
                  go_ret
                  exact ⟨.inl rfl, rfl⟩
                · go_wp2
                  go_round
                  case rel => exact ⟨_, _, j + 1, rfl, rfl, by go_num, by omega, by omega, by omega⟩
                  case measure => simp [intOf]; omega
              · skip
                go_wp2
                go_loop [7, 8, 11] (fun x y z => ∃ (t : Int) (bb : Bool) (j : Nat), x = .int .i64 t ∧ y = .bool bb ∧ z = .int .i64 j ∧ 0 ≤ t ∧ t ≤ 1048576 ∧ j ≤ q.ex.length) (fun _ _ z => q.ex.length - (intOf z).toNat)
                case atStart => exact ⟨_, _, 0, rfl, rfl, rfl, by omega, by omega, Nat.zero_le _⟩
                case round =>
                  obtain ⟨t, bb, j, rfl, rfl, rfl, ht0, ht1, hj⟩ := hrel
                  by_cases hjl : j < q.ex.length
                  · obtain ⟨eb, eo, hea, hec⟩ := R.sex.get (by omega)
                    have es := hec j hjl
                    clear hec
                    rw [hea] at c5
                    go_wp2_with fail
                    refine (addStr_any t (strAt q.ex j) w ht0 ht1).mono ?_
                    rintro e w' ⟨hr, hw⟩
                    subst w'
                    rcases hr with ⟨tt, rfl⟩ | ⟨t4, rfl, lo4, hi4, sz4⟩
                    · go_wp2
                      go_ret
                      exact ⟨.inl rfl, rfl⟩
                    · go_wp2
                      go_round
                      case rel => exact ⟨_, _, j + 1, rfl, rfl, by go_num, by omega, by omega, by omega⟩
                      case measure => simp [intOf]; omega
                  · skip
                    go_wp2
                    go_round
                    case rel => exact ⟨_, _, k + 1, rfl, rfl, by go_num, by omega, by omega, by omega⟩
                    case measure => simp [intOf]; omega
      · go_wp2
        go_loop [7, 8, 12] (fun x y z => ∃ (t : Int) (bb : Bool) (j : Nat), x = .int .i64 t ∧ y = .bool bb ∧ z = .int .i64 j ∧ 0 ≤ t ∧ t ≤ 1048576 ∧ j ≤ l.length ∧ Hid (∀ i, i < j → (lvA l i).size ≤ 1048576)) (fun _ _ z => l.length - (intOf z).toNat)
        case atStart => exact ⟨_, _, 0, rfl, rfl, rfl, by omega, by omega, Nat.zero_le _, fun i hi => by omega⟩
        case round =>
          obtain ⟨t, bb, j, rfl, rfl, rfl, ht0, ht1, hj, VA⟩ := hrel
          by_cases hjl : j < l.length
          · obtain ⟨eb, eo, rfl, hec⟩ := h1.get (by omega)
            have d0 := (hec j hjl).1
            have d1 := (hec j hjl).2
            clear hec
            go_wp2_with fail
            refine (addStr_any t (lkA l j) w ht0 ht1).mono ?_
            rintro e w' ⟨hr, hw⟩
            subst w'
            rcases hr with ⟨tt, rfl⟩ | ⟨t5, rfl, lo5, hi5, sz5⟩
            · go_wp2
              go_ret
              exact ⟨.inl rfl, rfl⟩
            · go_wp2_with fail
              refine (addStr_any t5 (lvA l j) w lo5 hi5).mono ?_
              rintro e w' ⟨hr, hw⟩
              subst w'
              rcases hr with ⟨tt, rfl⟩ | ⟨t6, rfl, lo6, hi6, sz6⟩
              · go_wp2
                go_ret
                exact ⟨.inl rfl, rfl⟩
              · go_wp2
                go_round
                case rel =>
                  refine ⟨_, _, j + 1, rfl, rfl, by go_num, by omega, by omega, by omega, fun i hi => ?_⟩
                  by_cases hij : i = j
                  · subst hij; exact sz6
                  · exact VA.out i (by omega)
                case measure => simp [intOf]; omega
          · have ZA : Hid (∀ i, i < l.length → (lvA l i).size ≤ 1048576) := fun i hi => VA.out i (by omega)
            go_wp2
            go_loop [7, 8, 13] (fun x y z => ∃ (t : Int) (bb : Bool) (j : Nat), x = .int .i64 t ∧ y = .bool bb ∧ z = .int .i64 j ∧ 0 ≤ t ∧ t ≤ 1048576 ∧ j ≤ l2.length ∧ Hid (∀ i, i < j → (lvA l2 i).size ≤ 1048576)) (fun _ _ z => l2.length - (intOf z).toNat)
            case atStart => exact ⟨_, _, 0, rfl, rfl, rfl, by omega, by omega, Nat.zero_le _, fun i hi => by omega⟩
            case round =>
              obtain ⟨t, bb, j, rfl, rfl, rfl, ht0, ht1, hj, VB⟩ := hrel
              by_cases hjl : j < l2.length
              · obtain ⟨eb, eo, rfl, hec⟩ := h2.get (by omega)
                have d0 := (hec j hjl).1
                have d1 := (hec j hjl).2
                clear hec
                go_wp2_with fail
                refine (addStr_any t (lkA l2 j) w ht0 ht1).mono ?_
                rintro e w' ⟨hr, hw⟩
                subst w'
                rcases hr with ⟨tt, rfl⟩ | ⟨t7, rfl, lo7, hi7, sz7⟩
                · go_wp2
                  go_ret
                  exact ⟨.inl rfl, rfl⟩
                · go_wp2_with fail
                  refine (addStr_any t7 (lvA l2 j) w lo7 hi7).mono ?_
                  rintro e w' ⟨hr, hw⟩
                  subst w'
                  rcases hr with ⟨tt, rfl⟩ | ⟨t8, rfl, lo8, hi8, sz8⟩
                  · go_wp2
                    go_ret
                    exact ⟨.inl rfl, rfl⟩
                  · go_wp2
                    go_round
                    case rel =>
                      refine ⟨_, _, j + 1, rfl, rfl, by go_num, by omega, by omega, by omega, fun i hi => ?_⟩
                      by_cases hij : i = j
                      · subst hij; exact sz8
                      · exact VB.out i (by omega)
                    case measure => simp [intOf]; omega
              · have ZB : Hid (∀ i, i < l2.length → (lvA l2 i).size ≤ 1048576) := fun i hi => VB.out i (by omega)
                go_wp2
                go_ret
                exact ⟨.inr ⟨rfl, ZA.out, ZB.out⟩, rfl⟩
  · go_enter Tryd.func6, Tryd.ntmps6
    go_wp2
    all_goals first | (go_ret; exact ⟨.inl rfl, rfl⟩) | (exfalso; simp at *; omega)
end Go.Proofs.Qxb6626248aDoor
