import Derived.Test.Qxb6626248aDoorMatches
namespace Go.Proofs.Qxb6626248aDoor
open Go.ChangeShapes Go.WideShapes Go.ChangeAt Go.RowKit
set_option linter.unusedVariables false
set_option linter.unusedSimpArgs false

def AnyBool (e : Ending) : Prop := ∃ b, e = .returned (.bool b)
theorem anyBool (b : Bool) : AnyBool (.returned (.bool b)) := ⟨b, rfl⟩
set_option maxRecDepth 100000 in
set_option maxHeartbeats 4000000 in
theorem bytes1_any (a : Option Addr) (c : Nat) (rs : List Req) (a1 : Option Addr) (c1 : Nat) (l : Labels) (w : World) (hl : rs.length ≤ 9223372036854775807) (hl1 : l.length ≤ 9223372036854775807) (h : Reqs w a rs) (h1 : Labs w a1 l) :
    Calls Tryd.prog 5 #[.slice a rs.length c, .slice a1 l.length c1] w fun e w' => AnyBool e ∧ w' = w := by
  go_enter Tryd.func5, Tryd.ntmps5
  go_wp2
  all_goals (try (go_ret; exact ⟨anyBool _, rfl⟩))
  go_loop [5, 6] (fun x y => ∃ k m : Nat, y = .int .i64 k ∧ k ≤ rs.length ∧ x = .int .i64 m ∧ m ≤ 1048576) (fun _ y => rs.length - (intOf y).toNat)
  case atStart => exact ⟨0, _, rfl, Nat.zero_le _, by go_num, by omega⟩
  case round =>
    obtain ⟨k, m, rfl, hk, rfl, hm⟩ := hrel
    by_cases hkl : k < rs.length
    · obtain ⟨b, off, rfl, hc⟩ := h.get (by omega)
      have R := hc k hkl
      clear hc
      obtain ⟨q, hq⟩ : ∃ q, q = rqA rs k := ⟨_, rfl⟩
      rw [← hq] at R
      have c0 := R.c0
      have c4 := R.c4
      have c5 := R.c5
      have la := R.lal
      have le := R.lex
      clear hq
      go_wp2
      all_goals (try (go_ret; exact ⟨anyBool _, rfl⟩))
      go_loop [5, 7] (fun x y => ∃ jj m2 : Nat, y = .int .i64 jj ∧ jj ≤ q.al.length ∧ x = .int .i64 m2 ∧ m2 ≤ 1048576) (fun _ y => q.al.length - (intOf y).toNat)
      case atStart => exact ⟨0, m + q.key.size + q.al.length, rfl, Nat.zero_le _, by go_num, by omega⟩
      case round =>
        obtain ⟨jj, m2, rfl, hj, rfl, hm2⟩ := hrel
        by_cases hjl : jj < q.al.length
        · obtain ⟨eb, eo, hea, hec⟩ := R.sal.get (by omega)
          have es := hec jj hjl
          clear hec
          rw [hea] at c4
          go_wp2
          all_goals (try (go_ret; exact ⟨anyBool _, rfl⟩))
          go_round
          case rel => exact ⟨jj + 1, m2 + (strAt q.al jj).size, by go_num, by omega, by go_num, by omega⟩
          case measure => simp [intOf]; omega
        · go_wp2
          all_goals (try (go_ret; exact ⟨anyBool _, rfl⟩))
          go_loop [5, 8] (fun x y => ∃ ii m3 : Nat, y = .int .i64 ii ∧ ii ≤ q.ex.length ∧ x = .int .i64 m3 ∧ m3 ≤ 1048576) (fun _ y => q.ex.length - (intOf y).toNat)
          case atStart => exact ⟨0, m2 + q.ex.length, rfl, Nat.zero_le _, by go_num, by omega⟩
          case round =>
            obtain ⟨ii, m3, rfl, hi, rfl, hm3⟩ := hrel
            by_cases hil : ii < q.ex.length
            · obtain ⟨eb, eo, hea, hec⟩ := R.sex.get (by omega)
              have es := hec ii hil
              clear hec
              rw [hea] at c5
              go_wp2
              all_goals (try (go_ret; exact ⟨anyBool _, rfl⟩))
              go_round
              case rel => exact ⟨ii + 1, m3 + (strAt q.ex ii).size, by go_num, by omega, by go_num, by omega⟩
              case measure => simp [intOf]; omega
            · go_wp2
              all_goals (try (go_ret; exact ⟨anyBool _, rfl⟩))
              go_round
              case rel => exact ⟨k + 1, m3, by go_num, by omega, rfl, by omega⟩
              case measure => simp [intOf]; omega
    · go_wp2
      all_goals (try (go_ret; exact ⟨anyBool _, rfl⟩))
      go_loop [5, 9] (fun x y => ∃ k m : Nat, y = .int .i64 k ∧ k ≤ l.length ∧ x = .int .i64 m ∧ m ≤ 1048576) (fun _ y => l.length - (intOf y).toNat)
      case atStart => exact ⟨0, _, rfl, Nat.zero_le _, by go_num, by omega⟩
      case round =>
        obtain ⟨k, m, rfl, hk, rfl, hm⟩ := hrel
        by_cases hkl : k < l.length
        · obtain ⟨b, off, rfl, hc⟩ := h1.get (by omega)
          have d0 := (hc k hkl).1
          have d1 := (hc k hkl).2
          clear hc
          go_wp2
          all_goals (try (go_ret; exact ⟨anyBool _, rfl⟩))
          go_round
          case rel => exact ⟨k + 1, m + (lkA l k).size + (lvA l k).size, by go_num, by omega, by go_num, by omega⟩
          case measure => simp [intOf]; omega
        · go_wp2
          all_goals (try (go_ret; exact ⟨anyBool _, rfl⟩))
set_option maxRecDepth 100000 in
set_option maxHeartbeats 4000000 in
theorem bytes2_any (a : Option Addr) (c : Nat) (rs : List Req) (a1 : Option Addr) (c1 : Nat) (l : Labels) (a2 : Option Addr) (c2 : Nat) (l2 : Labels) (w : World) (hl : rs.length ≤ 9223372036854775807) (hl1 : l.length ≤ 9223372036854775807) (hl2 : l2.length ≤ 9223372036854775807) (h : Reqs w a rs) (h1 : Labs w a1 l) (h2 : Labs w a2 l2) :
    Calls Tryd.prog 11 #[.slice a rs.length c, .slice a1 l.length c1, .slice a2 l2.length c2] w fun e w' => AnyBool e ∧ w' = w := by
  go_enter Tryd.func11, Tryd.ntmps11
  go_wp2
  all_goals (try (go_ret; exact ⟨anyBool _, rfl⟩))
  go_loop [7, 8] (fun x y => ∃ k m : Nat, y = .int .i64 k ∧ k ≤ rs.length ∧ x = .int .i64 m ∧ m ≤ 1048576) (fun _ y => rs.length - (intOf y).toNat)
  case atStart => exact ⟨0, _, rfl, Nat.zero_le _, by go_num, by omega⟩
  case round =>
    obtain ⟨k, m, rfl, hk, rfl, hm⟩ := hrel
    by_cases hkl : k < rs.length
    · obtain ⟨b, off, rfl, hc⟩ := h.get (by omega)
      have R := hc k hkl
      clear hc
      obtain ⟨q, hq⟩ : ∃ q, q = rqA rs k := ⟨_, rfl⟩
      rw [← hq] at R
      have c0 := R.c0
      have c4 := R.c4
      have c5 := R.c5
      have la := R.lal
      have le := R.lex
      clear hq
      go_wp2
      all_goals (try (go_ret; exact ⟨anyBool _, rfl⟩))
      go_loop [7, 9] (fun x y => ∃ jj m2 : Nat, y = .int .i64 jj ∧ jj ≤ q.al.length ∧ x = .int .i64 m2 ∧ m2 ≤ 1048576) (fun _ y => q.al.length - (intOf y).toNat)
      case atStart => exact ⟨0, m + q.key.size + q.al.length, rfl, Nat.zero_le _, by go_num, by omega⟩
      case round =>
        obtain ⟨jj, m2, rfl, hj, rfl, hm2⟩ := hrel
        by_cases hjl : jj < q.al.length
        · obtain ⟨eb, eo, hea, hec⟩ := R.sal.get (by omega)
          have es := hec jj hjl
          clear hec
          rw [hea] at c4
          go_wp2
          all_goals (try (go_ret; exact ⟨anyBool _, rfl⟩))
          go_round
          case rel => exact ⟨jj + 1, m2 + (strAt q.al jj).size, by go_num, by omega, by go_num, by omega⟩
          case measure => simp [intOf]; omega
        · go_wp2
          all_goals (try (go_ret; exact ⟨anyBool _, rfl⟩))
          go_loop [7, 10] (fun x y => ∃ ii m3 : Nat, y = .int .i64 ii ∧ ii ≤ q.ex.length ∧ x = .int .i64 m3 ∧ m3 ≤ 1048576) (fun _ y => q.ex.length - (intOf y).toNat)
          case atStart => exact ⟨0, m2 + q.ex.length, rfl, Nat.zero_le _, by go_num, by omega⟩
          case round =>
            obtain ⟨ii, m3, rfl, hi, rfl, hm3⟩ := hrel
            by_cases hil : ii < q.ex.length
            · obtain ⟨eb, eo, hea, hec⟩ := R.sex.get (by omega)
              have es := hec ii hil
              clear hec
              rw [hea] at c5
              go_wp2
              all_goals (try (go_ret; exact ⟨anyBool _, rfl⟩))
              go_round
              case rel => exact ⟨ii + 1, m3 + (strAt q.ex ii).size, by go_num, by omega, by go_num, by omega⟩
              case measure => simp [intOf]; omega
            · go_wp2
              all_goals (try (go_ret; exact ⟨anyBool _, rfl⟩))
              go_round
              case rel => exact ⟨k + 1, m3, by go_num, by omega, rfl, by omega⟩
              case measure => simp [intOf]; omega
    · go_wp2
      all_goals (try (go_ret; exact ⟨anyBool _, rfl⟩))
      go_loop [7, 11] (fun x y => ∃ k m : Nat, y = .int .i64 k ∧ k ≤ l.length ∧ x = .int .i64 m ∧ m ≤ 1048576) (fun _ y => l.length - (intOf y).toNat)
      case atStart => exact ⟨0, _, rfl, Nat.zero_le _, by go_num, by omega⟩
      case round =>
        obtain ⟨k, m, rfl, hk, rfl, hm⟩ := hrel
        by_cases hkl : k < l.length
        · obtain ⟨b, off, rfl, hc⟩ := h1.get (by omega)
          have d0 := (hc k hkl).1
          have d1 := (hc k hkl).2
          clear hc
          go_wp2
          all_goals (try (go_ret; exact ⟨anyBool _, rfl⟩))
          go_round
          case rel => exact ⟨k + 1, m + (lkA l k).size + (lvA l k).size, by go_num, by omega, by go_num, by omega⟩
          case measure => simp [intOf]; omega
        · go_wp2
          all_goals (try (go_ret; exact ⟨anyBool _, rfl⟩))
          go_loop [7, 12] (fun x y => ∃ k m : Nat, y = .int .i64 k ∧ k ≤ l2.length ∧ x = .int .i64 m ∧ m ≤ 1048576) (fun _ y => l2.length - (intOf y).toNat)
          case atStart => exact ⟨0, _, rfl, Nat.zero_le _, by go_num, by omega⟩
          case round =>
            obtain ⟨k, m, rfl, hk, rfl, hm⟩ := hrel
            by_cases hkl : k < l2.length
            · obtain ⟨b, off, rfl, hc⟩ := h2.get (by omega)
              have d0 := (hc k hkl).1
              have d1 := (hc k hkl).2
              clear hc
              go_wp2
              all_goals (try (go_ret; exact ⟨anyBool _, rfl⟩))
              go_round
              case rel => exact ⟨k + 1, m + (lkA l2 k).size + (lvA l2 k).size, by go_num, by omega, by go_num, by omega⟩
              case measure => simp [intOf]; omega
            · go_wp2
              all_goals (try (go_ret; exact ⟨anyBool _, rfl⟩))
end Go.Proofs.Qxb6626248aDoor
