import Derived.Test.Qxb6626217aUnique
namespace Go.Proofs.Qxb6626217a
open Go.ChangeShapes Go.WideShapes Go.ChangeAt Go.RowKit
set_option linter.unusedVariables false
set_option linter.unusedSimpArgs false

set_option maxRecDepth 100000 in
set_option maxHeartbeats 1000000 in
theorem lawB_out (a0 : Option Addr) (n0 c0 : Nat) (a1 : Option Addr) (n1 c1 : Nat) (a2 : Option Addr) (n2 c2 : Nat) (a3 : Option Addr) (n3 c3 : Nat) (w : World)
    (b0 : n0 ≤ 9223372036854775807) (b1 : n1 ≤ 9223372036854775807) (b2 : n2 ≤ 9223372036854775807) (b3 : n3 ≤ 9223372036854775807)
    (hout : ¬ (n0 ≤ 4096 ∧ n1 ≤ 4096 ∧ n2 ≤ 4096 ∧ n3 ≤ 4096 ∧ n1 = n0 ∧ n3 = n2)) :
    Calls Try.prog 4 #[.slice a0 n0 c0, .slice a1 n1 c1, .slice a2 n2 c2, .slice a3 n3 c3] w fun e w' => e = .returned (.bool true) ∧ Below w.heap.size w w' := by
  have O : Hid (¬ (n0 ≤ 4096 ∧ n1 ≤ 4096 ∧ n2 ≤ 4096 ∧ n3 ≤ 4096 ∧ n1 = n0 ∧ n3 = n2)) := hout
  clear hout
  go_enter Try.func4, Try.ntmps4
  go_wp2_with fail
  refine (bytes2_any a0 n0 c0 a1 n1 c1 a2 n2 c2 a3 n3 c3 w b0 b1 b2 b3).mono ?_
  rintro e w' ⟨⟨b, rfl⟩, hw⟩
  subst w'
  cases b with
  | false =>
    go_wp2
    go_ret
    exact ⟨rfl, Below.refl _ _⟩
  | true =>
    go_wp2_with fail
    all_goals first | (go_ret; exact ⟨rfl, Below.refl _ _⟩) | (exfalso; have := O.out; simp at *; omega)

set_option maxRecDepth 100000 in
set_option maxHeartbeats 4000000 in
theorem lawB_in (a0 : Option Addr) (c0 : Nat) (l0 : List Int) (a1 : Option Addr) (c1 : Nat) (l1 : List Int) (a2 : Option Addr) (c2 : Nat) (l2 : List Int) (a3 : Option Addr) (c3 : Nat) (l3 : List Int) (w : World)
    (h0 : Ints w a0 l0) (h1 : Ints w a1 l1) (h2 : Ints w a2 l2) (h3 : Ints w a3 l3)
    (k0 : l0.length ≤ 4096) (k2 : l2.length ≤ 4096) (e1 : Hid (l1.length = l0.length)) (e3 : Hid (l3.length = l2.length)) :
    Calls Try.prog 4 #[.slice a0 l0.length c0, .slice a1 l0.length c1, .slice a2 l2.length c2, .slice a3 l2.length c3] w fun e w' => e = .returned (.bool true) ∧ Below w.heap.size w w' := by
  obtain ⟨i0, hi, hz0, hz1, hz2⟩ := info_parts info34
  have n0 : ((l0.length : Int) != (l0.length : Int)) = false := by simp
  have n2 : ((l2.length : Int) != (l2.length : Int)) = false := by simp
  go_enter Try.func4, Try.ntmps4
  go_wp2_with fail
  refine (bytes2_any a0 l0.length c0 a1 l0.length c1 a2 l2.length c2 a3 l2.length c3 w (by omega) (by omega) (by omega) (by omega)).mono ?_
  rintro e w' ⟨⟨b, rfl⟩, hw⟩
  subst w'
  cases b with
  | false =>
    go_wp2
    go_ret
    exact ⟨rfl, Below.refl _ _⟩
  | true =>
    go_wp2_with fail
    refine (asc_any a0 c0 l0 w (by omega) h0).mono ?_
    rintro e w' ⟨⟨b, rfl, hA0⟩, nd, hw⟩
    subst w'
    cases b with
    | false =>
      go_wp2
      go_ret
      exact ⟨rfl, below_drewN (Below.refl _ _) _⟩
    | true =>
      have A0 : Asc l0 := hA0.1 rfl
      clear hA0
      go_wp2_with fail
      refine (asc_any a2 c2 l2 _ (by omega) (h2.below (below_drewN (Below.refl _ _) _))).mono ?_
      rintro e w' ⟨⟨b, rfl, hA2⟩, nd2, hw⟩
      subst w'
      cases b with
      | false =>
        go_wp2
        go_ret
        exact ⟨rfl, by first | exact below_drewN (Below.refl _ _) _ | exact below_drewN (below_drewN (Below.refl _ _) _) _⟩
      | true =>
        have A2 : Asc l2 := hA2.1 rfl
        clear hA2
        obtain ⟨w1, hw1⟩ : ∃ x, x = (w.drewN nd).drewN nd2 := ⟨_, rfl⟩
        have B1 : Below w.heap.size w w1 := by subst hw1; exact below_drewN (below_drewN (Below.refl _ _) _) _
        rw [← hw1]
        clear hw1 n0 n2
        go_wp2_with fail
        refine (build_any a0 c0 l0 a1 c1 l1 w1 (by omega) e1.out (h0.below B1) (h1.below B1)).mono ?_
        rintro e w2 ⟨rfl, R0, B2⟩
        have s1 := B1.size
        have s2 := B2.size
        have B2' := below_step B1 s1 B2
        go_wp2_with fail
        refine (newDeps_any _ _ _ w2).mono ?_
        rintro e w3 ⟨rfl, B3⟩
        have s3 := B3.size
        have B3' := below_step B2' (by omega) B3
        have R0' := R0.below B3
        clear R0 B2 B3
        go_wp2_with fail
        obtain ⟨w4, hw4⟩ : ∃ x, x = w3.alloc (.cells #[.slice (some ⟨w1.heap.size, 0, none⟩) l0.length l0.length] 28) := ⟨_, rfl⟩
        have B4 : Below w3.heap.size w3 w4 := by subst hw4; exact (Below.refl _ _).alloc (Nat.le_refl _) _
        have D4 : DCell w4 w3.heap.size w1.heap.size l0.length l0.length := by subst hw4; exact heap_alloc_new w3 _
        have R4 := R0'.below B4
        have s4 : w3.heap.size < w4.heap.size := by subst hw4; simp
        have B4' := below_step B3' (by omega) B4
        rw [← hw4]
        clear hw4 R0' B4
        refine (build_any a2 c2 l2 a3 c3 l3 w4 (by omega) e3.out (h2.below B4') (h3.below B4')).mono ?_
        rintro e w5 ⟨rfl, O5, B5⟩
        have s5 := B5.size
        have B5' := below_step B4' (by omega) B5
        have D5 := D4.below B5
        have R5 := R4.below B5
        clear D4 R4 B5
        go_wp2_with fail
        refine (newDeps_any _ _ _ w5).mono ?_
        rintro e w6 ⟨rfl, B6⟩
        have s6 := B6.size
        have B6' := below_step B5' (by omega) B6
        have D6 := D5.below B6
        have R6 := R5.below B6
        have O6 := O5.below B6
        clear D5 R5 O5 B6
        have O6' := O6.rebase (base' := w.heap.size) (by omega)
        have R6' := R6.rebase (base' := w.heap.size) (by omega)
        clear O6 R6
        go_wp2_with fail
        obtain ⟨w7, hw7⟩ : ∃ x, x = w6.alloc (.cells #[.slice (some ⟨w4.heap.size, 0, none⟩) l2.length l2.length] 28) := ⟨_, rfl⟩
        have B7 : Below w6.heap.size w6 w7 := by subst hw7; exact (Below.refl _ _).alloc (Nat.le_refl _) _
        have s7 : w6.heap.size < w7.heap.size := by subst hw7; simp
        have E7 : DCell w7 w6.heap.size w4.heap.size l2.length l2.length := by subst hw7; exact heap_alloc_new w6 _
        have B7' := below_step B6' (by omega) B7
        have D7 := D6.below B7
        have R7 := R6'.below B7
        have O7 := O6'.below B7
        rw [← hw7]
        clear hw7 R6' O6' D6 B7
        have em := msgs_length l0 l1 e1.out
        have eo := msgs_length l2 l3 e3.out
        have am := sasc_msgs A0 e1.out
        have ao := sasc_msgs A2 e3.out
        have M := merge_any w.heap.size w3.heap.size w1.heap.size l0.length w4.heap.size l2.length (msgs l0 l1) (msgs l2 l3) w7 (by rw [em]; exact D7) R7 O7 (by omega) (by omega) (by omega) am ao
        rw [eo] at M
        refine M.mono ?_
        clear M
        rintro e w8 ⟨rfl, r, g, cap, IM, R8, pl, D8, K8⟩
        have B8' : Below w.heap.size w w8 := B7'.trans (K8.below (by omega) (fun k hk => by omega))
        have s8 := K8.size
        have O8 := K8.row O7 (by omega)
        have E8 : DCell w8 w6.heap.size w4.heap.size l2.length l2.length := (K8.block _ (by omega) (by omega)).trans E7
        have gl := R8.block.2.1
        have rl := IM.len
        rw [em, eo] at rl
        have EM := hide em
        have EO := hide eo
        clear R7 O7 D7 E7 K8 em eo
        have dc := cell_of_one E8
        go_wp2_with fail
        refine (ids_any _ _ _ w8).mono ?_
        rintro e w9 ⟨rfl, B9⟩
        have s9 := B9.size
        have B9' := below_step B8' (by omega) B9
        have O9 := O8.below B9
        have R9 := R8.below B9
        have D9 := DCell.below D8 B9
        clear dc O8 R8 D8 E8 B9
        go_wp2_with fail
        have S := same_true w.heap.size w4.heap.size l2.length (msgs l2 l3) a2 c2 l2 a3 c3 l3 w9 (by omega) e3.out rfl O9 (h2.below B9') (h3.below B9')
        refine S.mono ?_
        rintro e w' ⟨rfl, n1, hw⟩
        subst w'
        clear S O9
        have dc := cell_of_one D9
        go_wp2_with fail
        obtain ⟨wa, hwa⟩ : ∃ x, x = w9.drewN n1 := ⟨_, rfl⟩
        have Ka : Below w9.heap.size w9 wa := by subst hwa; exact below_drewN (Below.refl _ _) _
        have sa := Ka.size
        have Ba' := below_step B9' (by omega) Ka
        have Ra := R9.below Ka
        rw [← hwa]
        clear hwa Ka R9 dc D9
        refine (ids_any _ _ _ wa).mono ?_
        rintro e w10 ⟨rfl, B10⟩
        have s10 := B10.size
        have B10' := below_step Ba' (by omega) B10
        have R10 := Ra.below B10
        clear Ra B10
        go_wp2_with fail
        refine (build_any a2 c2 l2 a3 c3 l3 w10 (by omega) e3.out (h2.below B10') (h3.below B10')).mono ?_
        rintro e w11 ⟨rfl, O11, B11⟩
        have s11 := B11.size
        have s11' := O11.block.2.1
        have B11' := below_step B10' (by omega) B11
        have R11 := R10.below B11
        clear R10 B11
        go_wp2_with fail
        refine (newDeps_any _ _ _ w11).mono ?_
        rintro e w12 ⟨rfl, B12⟩
        have s12 := B12.size
        have B12' := below_step B11' (by omega) B12
        have R12 := R11.below B12
        have O12 := O11.below B12
        clear R11 O11 B12
        go_wp2_with fail
        obtain ⟨w13, hw13⟩ : ∃ x, x = w12.alloc (.cells #[.slice (some ⟨w10.heap.size, 0, none⟩) l2.length l2.length] 28) := ⟨_, rfl⟩
        have B13 : Below w12.heap.size w12 w13 := by subst hw13; exact (Below.refl _ _).alloc (Nat.le_refl _) _
        have D13 : DCell w13 w12.heap.size w10.heap.size l2.length l2.length := by subst hw13; exact heap_alloc_new w12 _
        have s13 : w12.heap.size < w13.heap.size := by subst hw13; simp
        have B13' := below_step B12' (by omega) B13
        have R13 := R12.below B13
        have O13 := O12.below B13
        rw [← hw13]
        clear hw13 R12 O12 B13
        refine (build_any a0 c0 l0 a1 c1 l1 w13 (by omega) e1.out (h0.below B13') (h1.below B13')).mono ?_
        rintro e w14 ⟨rfl, Q14, B14⟩
        have s14 := B14.size
        have s14' := Q14.block.2.1
        have B14' := below_step B13' (by omega) B14
        have R14 := R13.below B14
        have O14 := O13.below B14
        have D14 := DCell.below D13 B14
        clear R13 O13 D13 B14
        go_wp2_with fail
        refine (newDeps_any _ _ _ w14).mono ?_
        rintro e w15 ⟨rfl, B15⟩
        have s15 := B15.size
        have B15' := below_step B14' (by omega) B15
        have R15 := R14.below B15
        have O15 := O14.below B15
        have D15 := DCell.below D14 B15
        have Q15 := Q14.below B15
        clear R14 O14 D14 Q14 B15
        go_wp2_with fail
        obtain ⟨w16, hw16⟩ : ∃ x, x = w15.alloc (.cells #[.slice (some ⟨w13.heap.size, 0, none⟩) l0.length l0.length] 28) := ⟨_, rfl⟩
        have B16 : Below w15.heap.size w15 w16 := by subst hw16; exact (Below.refl _ _).alloc (Nat.le_refl _) _
        have s16 : w15.heap.size < w16.heap.size := by subst hw16; simp
        have B16' := below_step B15' (by omega) B16
        have R16 := R15.below B16
        have O16 := (O15.below B16).rebase (base' := w.heap.size) (by omega)
        have D16 := DCell.below D15 B16
        have Q16 := (Q15.below B16).rebase (base' := w.heap.size) (by omega)
        rw [← hw16]
        clear hw16 R15 O15 D15 Q15 B16
        have M := merge_any w.heap.size w12.heap.size w10.heap.size l2.length w13.heap.size l0.length (msgs l2 l3) (msgs l0 l1) w16 (by rw [EO.out]; exact D16) O16 Q16 (by omega) (by rw [EO.out]; omega) (by rw [EM.out]; omega) ao am
        rw [EM.out] at M
        refine M.mono ?_
        clear M
        rintro e w17 ⟨rfl, r2, g2, cap2, IM2, R17b, pl2, D17, K17⟩
        obtain rfl : r = r2 := IM.orderFree am ao IM2
        have B17' : Below w.heap.size w w17 := B16'.trans (K17.below (by omega) (fun k hk => by omega))
        have s17 := K17.size
        have R17 := K17.row R16 (by omega)
        clear R16 O16 Q16 D16 K17 IM2
        have dc := cell_of_one D17
        go_wp2_with fail
        refine (ids_any _ _ _ w17).mono ?_
        rintro e w18 ⟨rfl, B18⟩
        have s18 := B18.size
        have B18' := below_step B17' (by omega) B18
        have R18 := R17.below B18
        have R18b := R17b.below B18
        clear R17 R17b D17 dc B18
        go_wp2_with fail
        refine (eq_true w.heap.size g cap r w.heap.size g2 cap2 w18 (by omega) R18 R18b).mono ?_
        rintro e w' ⟨rfl, n2, hw⟩
        subst w'
        clear R18b
        go_wp2_with (at_make; refine wpList_make_full _ rfl _ _ 26 rfl w.heap.size 34 i0 (.agg #[.int .i64 0, .int .i64 0]) 2 Try.underlying26 hi hz0 hz1 .i64 .i64 _ _ r.length rfl rfl rfl rfl (by rw [hz2]; omega) (by unfold maxLen; omega) (by simp; omega) ?_; intro w19 hown hgrow)
        have K19 : Keeps (fun _ => False) w18 w19 := (Keeps.drewN _ _ _).trans (Keeps.grown hgrow (fun k hk => by cases hk))
        have R19 := K19.row R18 (fun h => h)
        have B19 : Below w.heap.size w w19 := B18'.trans (K19.below (by omega) (fun k hk => hk.elim))
        have M19 : Row w19 w.heap.size w18.heap.size r.length (List.replicate r.length (0, 0)) := by
          rw [made_flat] at hown
          unfold Row
          rw [List.length_replicate]
          exact hown
        clear hown hgrow R18 K19
        go_loopw [15] (fun i wr => ∃ k : Nat, k ≤ r.length ∧ i = .int .i64 k ∧ ∃ m : Ms, Hid (m.length = r.length) ∧ Row wr w.heap.size w18.heap.size r.length m ∧ Hid (∀ j, j < k → sA m j = sA r j ∧ tA m j = tA r j) ∧ Row wr w.heap.size g cap r ∧ Below w.heap.size w wr) (fun i _ => r.length - (intOf i).toNat)
        case atStart => exact ⟨0, Nat.zero_le _, rfl, _, by simp [Hid], M19, fun j hj => by omega, R19, B19⟩
        case round =>
          clear R19 B19 M19
          obtain ⟨k, hk, rfl, m, el, Rm, A, R, B⟩ := hrel
          by_cases hkr : k < r.length
          · have q0 := R.cell0 hkr
            have q0' := R.cell1 hkr
            have hkl : k < m.length := by have := el.out; omega
            have q1 := Rm.cell0 hkl
            have q1' := Rm.cell1 hkl
            have q2 := Rm.free (k * 2)
            have q2' := Rm.free (k * 2 + 1)
            go_wp2
            go_roundw
            case rel =>
              refine ⟨k + 1, by omega, by go_num, m.set k (sA r k, tA r k), ?_, Rm.store k _ _, ?_, ((Keeps.set1 _ _ _ _).trans (Keeps.set1 _ _ _ _)).row R (by omega), (B.setCell (by simp; omega) _).setCell (by simp; omega) _⟩
              · have := el.out; simp [Hid]; omega
              · intro j hj
                rw [sA_set _ _ _ _ hkl, tA_set _ _ _ _ hkl]
                by_cases hjk : j = k
                · subst hjk; simp
                · rw [if_neg hjk, if_neg hjk]; exact A.out j (by omega)
            case measure => simp [intOf]; omega
          · obtain rfl : k = r.length := by omega
            have es : m = r := ms_ext el.out (fun i hi => (A.out i (by have := el.out; omega)).1) (fun i hi => (A.out i (by have := el.out; omega)).2)
            subst es
            clear A el hk
            go_wp2_with fail
            clear hkr
            have sr := B.size
            have sr' := Rm.block.2.1
            refine (newDeps_any _ _ _ wr).mono ?_
            rintro e w20 ⟨rfl, B20⟩
            have s20 := B20.size
            have B20' := below_step B (by omega) B20
            have R20 := R.below B20
            have T20 := Rm.below B20
            clear R Rm B20
            go_wp2_with fail
            obtain ⟨w21, hw21⟩ : ∃ x, x = w20.alloc (.cells #[.slice (some ⟨w18.heap.size, 0, none⟩) (List.length m) (List.length m)] 28) := ⟨_, rfl⟩
            have B21 : Below w20.heap.size w20 w21 := by subst hw21; exact (Below.refl _ _).alloc (Nat.le_refl _) _
            have D21 : DCell w21 w20.heap.size w18.heap.size (List.length m) (List.length m) := by subst hw21; exact heap_alloc_new w20 _
            have s21 : w20.heap.size < w21.heap.size := by subst hw21; simp
            have B21' := below_step B20' (by omega) B21
            have R21 := R20.below B21
            have T21 := T20.below B21
            rw [← hw21]
            clear hw21 R20 T20 B21
            refine (build_any a2 c2 l2 a3 c3 l3 w21 (by omega) e3.out (h2.below B21') (h3.below B21')).mono ?_
            rintro e w22 ⟨rfl, O22, B22⟩
            have s22 := B22.size
            have s22' := O22.block.2.1
            have B22' := below_step B21' (by omega) B22
            have R22 := R21.below B22
            have T22 := T21.below B22
            have D22 := DCell.below D21 B22
            clear R21 T21 D21 B22
            go_wp2_with fail
            refine (newDeps_any _ _ _ w22).mono ?_
            rintro e w23 ⟨rfl, B23⟩
            have s23 := B23.size
            have B23' := below_step B22' (by omega) B23
            have R23 := R22.below B23
            have T23 := T22.below B23
            have D23 := DCell.below D22 B23
            have O23 := (O22.below B23).rebase (base' := w.heap.size) (by omega)
            clear R22 T22 D22 O22 B23
            go_wp2_with fail
            have M := merge_any w.heap.size w20.heap.size w18.heap.size m.length w21.heap.size l2.length m (msgs l2 l3) w23 D23 T23 O23 (by omega) (by omega) (by rw [EO.out]; omega) IM.asc ao
            rw [EO.out] at M
            refine M.mono ?_
            clear M
            rintro e w24 ⟨rfl, r3, g3, cap3, IM3, R24b, pl3, D24, K24⟩
            obtain rfl : r3 = m := IM.again ao IM3
            have B24' : Below w.heap.size w w24 := B23'.trans (K24.below (by omega) (fun k hk => by omega))
            have s24 := K24.size
            have R24 := K24.row R23 (by omega)
            clear R23 T23 O23 D23 K24 IM3
            have dc := cell_of_one D24
            go_wp2_with fail
            refine (ids_any _ _ _ w24).mono ?_
            rintro e w25 ⟨rfl, B25⟩
            have s25 := B25.size
            have B25' := below_step B24' (by omega) B25
            have R25 := R24.below B25
            have R25b := R24b.below B25
            clear R24 R24b D24 dc B25
            go_wp2_with fail
            refine (eq_true w.heap.size g3 cap3 r3 w.heap.size g cap w25 (by omega) R25b R25).mono ?_
            rintro e w' ⟨rfl, n3, hw⟩
            subst w'
            go_wp2_with fail
            refine (count_any a0 c0 l0 a2 c2 l2 r3 (w25.drewN n3) (by omega) (by omega) (by omega) (h0.below (below_drewN B25' _)) (h2.below (below_drewN B25' _)) A0 A2 IM.asc (IM.cnt e1.out e3.out)).mono ?_
            rintro e w' ⟨rfl, n4, hw⟩
            subst w'
            have nn : (((List.length r3 : Nat) : Int) == ((List.length r3 : Nat) : Int)) = true := by simp
            go_wp2
            go_ret
            exact ⟨rfl, by first | exact below_drewN B25' _ | exact below_drewN (below_drewN B25' _) _⟩
end Go.Proofs.Qxb6626217a
