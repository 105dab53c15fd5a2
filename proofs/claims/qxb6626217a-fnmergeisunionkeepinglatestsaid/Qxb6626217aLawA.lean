import Derived.Test.Qxb6626217aParts
namespace Go.Proofs.Qxb6626217a
open Go.ChangeShapes Go.WideShapes Go.ChangeAt Go.RowKit
set_option linter.unusedVariables false
set_option linter.unusedSimpArgs false

set_option maxRecDepth 100000 in
set_option maxHeartbeats 1000000 in
theorem lawA_out (a0 : Option Addr) (n0 c0 : Nat) (a1 : Option Addr) (n1 c1 : Nat) (a2 : Option Addr) (n2 c2 : Nat) (a3 : Option Addr) (n3 c3 : Nat) (w : World)
    (b0 : n0 ≤ 9223372036854775807) (b1 : n1 ≤ 9223372036854775807) (b2 : n2 ≤ 9223372036854775807) (b3 : n3 ≤ 9223372036854775807)
    (hout : ¬ (n0 ≤ 4096 ∧ n1 ≤ 4096 ∧ n2 ≤ 4096 ∧ n3 ≤ 4096 ∧ n1 = n0 ∧ n3 = n2)) :
    Calls Try.prog 3 #[.slice a0 n0 c0, .slice a1 n1 c1, .slice a2 n2 c2, .slice a3 n3 c3] w fun e w' => e = .returned (.bool true) ∧ Below w.heap.size w w' := by
  have O : Hid (¬ (n0 ≤ 4096 ∧ n1 ≤ 4096 ∧ n2 ≤ 4096 ∧ n3 ≤ 4096 ∧ n1 = n0 ∧ n3 = n2)) := hout
  clear hout
  go_enter Try.func3, Try.ntmps3
  go_wp2_with fail
  refine (bytes_any a0 n0 c0 a1 n1 c1 a2 n2 c2 a3 n3 c3 w b0 b1 b2 b3).mono ?_
  rintro e w' ⟨⟨b, rfl, hb⟩, hw⟩
  subst w'
  clear hb
  cases b with
  | false =>
    go_wp2
    go_ret
    exact ⟨rfl, Below.refl _ _⟩
  | true =>
    go_wp2_with fail
    all_goals first | (go_ret; exact ⟨rfl, Below.refl _ _⟩) | (exfalso; have := O.out; simp at *; omega)

/-- what the merged list holds at one sender, in the lists' own words -/
def GoodL (l0 l1 l2 l3 : List Int) (s t : Int) : Prop :=
  (∃ i, i < l0.length ∧ at0 l0 i = s ∧ ∃ j, j < l2.length ∧ at0 l2 j = s ∧ ((at0 l1 i ≤ at0 l3 j ∧ t = at0 l3 j) ∨ (at0 l3 j ≤ at0 l1 i ∧ t = at0 l1 i))) ∨
  (∃ i, i < l0.length ∧ at0 l0 i = s ∧ (∀ j, j < l2.length → at0 l2 j ≠ s) ∧ t = at0 l1 i) ∨
  ((∀ i, i < l0.length → at0 l0 i ≠ s) ∧ ∃ j, j < l2.length ∧ at0 l2 j = s ∧ t = at0 l3 j)

theorem good_lists {l0 l1 l2 l3 : List Int} {r : Ms} (e1 : l1.length = l0.length) (e3 : l3.length = l2.length) (h : IsMerge (msgs l0 l1) (msgs l2 l3) r) : Hid (∀ p, p < r.length → GoodL l0 l1 l2 l3 (sA r p) (tA r p)) := by
  intro p hp
  have em := msgs_length l0 l1 e1
  have eo := msgs_length l2 l3 e3
  rcases h.good p hp with ⟨i, hi, e, j, hj, e2, q⟩ | ⟨i, hi, e, hn, q⟩ | ⟨hn, j, hj, e2, q⟩
  · rw [em] at hi; rw [eo] at hj
    rw [sA_msgs _ _ e1 _ hi] at e; rw [sA_msgs _ _ e3 _ hj] at e2; rw [tA_msgs _ _ e1 _ hi, tA_msgs _ _ e3 _ hj] at q
    exact .inl ⟨i, hi, e, j, hj, e2, q⟩
  · rw [em] at hi
    rw [sA_msgs _ _ e1 _ hi] at e; rw [tA_msgs _ _ e1 _ hi] at q
    exact .inr (.inl ⟨i, hi, e, fun j hj e5 => hn j (by omega) (by rw [sA_msgs _ _ e3 _ hj]; exact e5), q⟩)
  · rw [eo] at hj
    rw [sA_msgs _ _ e3 _ hj] at e2; rw [tA_msgs _ _ e3 _ hj] at q
    exact .inr (.inr ⟨fun i hi e5 => hn i (by omega) (by rw [sA_msgs _ _ e1 _ hi]; exact e5), j, hj, e2, q⟩)

theorem asc_inj {l : List Int} (h : Asc l) {i j : Nat} (hi : i < l.length) (hj : j < l.length) (e : at0 l i = at0 l j) : i = j := by
  rcases Nat.lt_trichotomy i j with h1 | h1 | h1
  · have := asc_lt h h1 hj; omega
  · exact h1
  · have := asc_lt h h1 hi; omega

section
variable {l0 l1 l2 l3 : List Int} {s t : Int}
theorem goodL_both (g : GoodL l0 l1 l2 l3 s t) (A0 : Asc l0) (A2 : Asc l2) {i j : Nat} (hi : i < l0.length) (ei : at0 l0 i = s) (hj : j < l2.length) (ej : at0 l2 j = s) : (at0 l1 i < at0 l3 j → t = at0 l3 j) ∧ (at0 l3 j ≤ at0 l1 i → t = at0 l1 i) := by
  rcases g with ⟨i', hi', e, j', hj', e2, q⟩ | ⟨i', hi', e, hn, q⟩ | ⟨hn, _⟩
  · obtain rfl : i' = i := asc_inj A0 hi' hi (by omega)
    obtain rfl : j' = j := asc_inj A2 hj' hj (by omega)
    omega
  · exact absurd ej (hn j hj)
  · exact absurd ei (hn i hi)
theorem goodL_left (g : GoodL l0 l1 l2 l3 s t) (A0 : Asc l0) {i : Nat} (hi : i < l0.length) (ei : at0 l0 i = s) (hn : ∀ j, j < l2.length → at0 l2 j ≠ s) : t = at0 l1 i := by
  rcases g with ⟨i', hi', e, j', hj', e2, q⟩ | ⟨i', hi', e, _, q⟩ | ⟨hn', _⟩
  · exact absurd e2 (hn j' hj')
  · obtain rfl : i' = i := asc_inj A0 hi' hi (by omega)
    exact q
  · exact absurd ei (hn' i hi)
theorem goodL_right (g : GoodL l0 l1 l2 l3 s t) (A2 : Asc l2) {j : Nat} (hj : j < l2.length) (ej : at0 l2 j = s) (hn : ∀ i, i < l0.length → at0 l0 i ≠ s) : t = at0 l3 j := by
  rcases g with ⟨i', hi', e, _⟩ | ⟨i', hi', e, _⟩ | ⟨_, j', hj', e2, q⟩
  · exact absurd e (hn i' hi')
  · exact absurd e (hn i' hi')
  · obtain rfl : j' = j := asc_inj A2 hj' hj (by omega)
    exact q
theorem goodL_none (g : GoodL l0 l1 l2 l3 s t) (h0 : ∀ i, i < l0.length → at0 l0 i ≠ s) (h2 : ∀ j, j < l2.length → at0 l2 j ≠ s) : False := by
  rcases g with ⟨i', hi', e, _⟩ | ⟨i', hi', e, _⟩ | ⟨_, j', hj', e2, q⟩
  · exact h0 i' hi' e
  · exact h0 i' hi' e
  · exact h2 j' hj' e2
end

theorem find_snds (g : Nat) (r : Ms) (x : Int) (W : World) (hl : r.length ≤ 1048576) (h : Ints W (some ⟨g, 0, none⟩) (snds r)) (hA : SAsc r) (hx : ∃ p, p < r.length ∧ sA r p = x) :
    Calls Try.prog 11 #[.slice (some ⟨g, 0, none⟩) r.length r.length, .int .i64 x] W fun e w' => (∃ ρ : Int, e = .returned (.int .i64 ρ) ∧ 0 ≤ ρ) ∧ ∃ n, w' = W.drewN n := by
  have F := find_any (some ⟨g, 0, none⟩) r.length (snds r) x W (by rw [snds_length]; exact hl) h (asc_snds hA)
  rw [snds_length] at F
  refine F.mono ?_
  rintro e w' ⟨⟨ρ, rfl, hρ⟩, hn⟩
  refine ⟨⟨ρ, rfl, ?_⟩, hn⟩
  rcases hρ with ⟨j, rfl, _⟩ | ⟨_, hno⟩
  · omega
  · obtain ⟨p, hp, e⟩ := hx
    exact absurd (by rw [at0_snds _ _ hp]; exact e) (hno p hp)

set_option maxRecDepth 100000 in
set_option maxHeartbeats 4000000 in
theorem lawA_in (a0 : Option Addr) (c0 : Nat) (l0 : List Int) (a1 : Option Addr) (c1 : Nat) (l1 : List Int) (a2 : Option Addr) (c2 : Nat) (l2 : List Int) (a3 : Option Addr) (c3 : Nat) (l3 : List Int) (w : World)
    (h0 : Ints w a0 l0) (h1 : Ints w a1 l1) (h2 : Ints w a2 l2) (h3 : Ints w a3 l3)
    (k0 : l0.length ≤ 4096) (k2 : l2.length ≤ 4096) (e1 : Hid (l1.length = l0.length)) (e3 : Hid (l3.length = l2.length)) :
    Calls Try.prog 3 #[.slice a0 l0.length c0, .slice a1 l0.length c1, .slice a2 l2.length c2, .slice a3 l2.length c3] w fun e w' => e = .returned (.bool true) ∧ Below w.heap.size w w' := by
  obtain ⟨i0, hi, hz0, hz1, hz2⟩ := info_parts info3
  have n0 : ((l0.length : Int) != (l0.length : Int)) = false := by simp
  have n2 : ((l2.length : Int) != (l2.length : Int)) = false := by simp
  go_enter Try.func3, Try.ntmps3
  go_wp2_with fail
  refine (bytes_any a0 l0.length c0 a1 l0.length c1 a2 l2.length c2 a3 l2.length c3 w (by omega) (by omega) (by omega) (by omega)).mono ?_
  rintro e w' ⟨⟨b, rfl, hb⟩, hw⟩
  subst w'
  clear hb
  cases b with
  | false =>
    go_wp2
    go_ret
    exact ⟨rfl, Below.refl _ _⟩
  | true =>
    go_wp2_with fail
    refine (asc_any a0 c0 l0 w (by omega) h0).mono ?_
    rintro e w' ⟨⟨b, rfl, hA0⟩, nd, hw⟩
    subst w'
    cases b with
    | false =>
      go_wp2
      go_ret
      exact ⟨rfl, below_drewN (Below.refl _ _) _⟩
    | true =>
      have A0 : Asc l0 := hA0.1 rfl
      clear hA0
      go_wp2_with fail
      refine (asc_any a2 c2 l2 _ (by omega) (h2.below (below_drewN (Below.refl _ _) _))).mono ?_
      rintro e w' ⟨⟨b, rfl, hA2⟩, nd2, hw⟩
      subst w'
      cases b with
      | false =>
        go_wp2
        go_ret
        exact ⟨rfl, by first | exact below_drewN (Below.refl _ _) _ | exact below_drewN (below_drewN (Below.refl _ _) _) _⟩
      | true =>
        have A2 : Asc l2 := hA2.1 rfl
        clear hA2
        obtain ⟨w1, hw1⟩ : ∃ x, x = (w.drewN nd).drewN nd2 := ⟨_, rfl⟩
        have B1 : Below w.heap.size w w1 := by subst hw1; exact below_drewN (below_drewN (Below.refl _ _) _) _
        rw [← hw1]
        clear hw1 n0 n2
        go_wp2_with fail
        refine (build_any a0 c0 l0 a1 c1 l1 w1 (by omega) e1.out (h0.below B1) (h1.below B1)).mono ?_
        rintro e w2 ⟨rfl, R0, B2⟩
        have s1 := B1.size
        have s2 := B2.size
        have B2' := below_step B1 s1 B2
        go_wp2_with fail
        refine (newDeps_any _ _ _ w2).mono ?_
        rintro e w3 ⟨rfl, B3⟩
        have s3 := B3.size
        have B3' := below_step B2' (by omega) B3
        have R0' := R0.below B3
        clear R0 B2 B3
        go_wp2_with fail
        obtain ⟨w4, hw4⟩ : ∃ x, x = w3.alloc (.cells #[.slice (some ⟨w1.heap.size, 0, none⟩) l0.length l0.length] 28) := ⟨_, rfl⟩
        have B4 : Below w3.heap.size w3 w4 := by subst hw4; exact (Below.refl _ _).alloc (Nat.le_refl _) _
        have D4 : DCell w4 w3.heap.size w1.heap.size l0.length l0.length := by subst hw4; exact heap_alloc_new w3 _
        have R4 := R0'.below B4
        have s4 : w3.heap.size < w4.heap.size := by subst hw4; simp
        have B4' := below_step B3' (by omega) B4
        rw [← hw4]
        clear hw4 R0' B4
        refine (build_any a2 c2 l2 a3 c3 l3 w4 (by omega) e3.out (h2.below B4') (h3.below B4')).mono ?_
        rintro e w5 ⟨rfl, O5, B5⟩
        have s5 := B5.size
        have B5' := below_step B4' (by omega) B5
        have D5 := D4.below B5
        have R5 := R4.below B5
        clear D4 R4 B5
        go_wp2_with fail
        refine (newDeps_any _ _ _ w5).mono ?_
        rintro e w6 ⟨rfl, B6⟩
        have s6 := B6.size
        have B6' := below_step B5' (by omega) B6
        have D6 := D5.below B6
        have R6 := R5.below B6
        have O6 := O5.below B6
        clear D5 R5 O5 B6
        have O6' := O6.rebase (base' := w.heap.size) (by omega)
        have R6' := R6.rebase (base' := w.heap.size) (by omega)
        clear O6 R6
        go_wp2_with fail
        obtain ⟨w7, hw7⟩ : ∃ x, x = w6.alloc (.cells #[.slice (some ⟨w4.heap.size, 0, none⟩) l2.length l2.length] 28) := ⟨_, rfl⟩
        have B7 : Below w6.heap.size w6 w7 := by subst hw7; exact (Below.refl _ _).alloc (Nat.le_refl _) _
        have s7 : w6.heap.size < w7.heap.size := by subst hw7; simp
        have B7' := below_step B6' (by omega) B7
        have D7 := D6.below B7
        have R7 := R6'.below B7
        have O7 := O6'.below B7
        rw [← hw7]
        clear hw7 R6' O6' D6 B7
        have em := msgs_length l0 l1 e1.out
        have eo := msgs_length l2 l3 e3.out
        have M := merge_any w.heap.size w3.heap.size w1.heap.size l0.length w4.heap.size l2.length (msgs l0 l1) (msgs l2 l3) w7 (by rw [em]; exact D7) R7 O7 (by omega) (by omega) (by omega) (sasc_msgs A0 e1.out) (sasc_msgs A2 e3.out)
        rw [eo] at M
        refine M.mono ?_
        clear M
        rintro e w8 ⟨rfl, r, g, cap, IM, R8, pl, D8, K8⟩
        have B8' : Below w.heap.size w w8 := B7'.trans (K8.below (by omega) (fun k hk => by omega))
        have s8 := K8.size
        clear R7 O7 D7 K8
        have dc := cell_of_one D8
        go_wp2_with fail
        refine (ids_any _ _ _ w8).mono ?_
        rintro e w9 ⟨rfl, B9⟩
        have s9 := B9.size
        have B9' := below_step B8' (by omega) B9
        have R9 := R8.below B9
        have gl := R8.block.2.1
        have rl := IM.len
        rw [em, eo] at rl
        have F0 : Hid (∀ i, i < l0.length → ∃ p, p < r.length ∧ sA r p = at0 l0 i) := fun i hi => by
          obtain ⟨p, hp, e⟩ := IM.covm i (by omega); exact ⟨p, hp, by rw [e, sA_msgs _ _ e1.out _ hi]⟩
        have F2 : Hid (∀ i, i < l2.length → ∃ p, p < r.length ∧ sA r p = at0 l2 i) := fun i hi => by
          obtain ⟨p, hp, e⟩ := IM.covo i (by omega); exact ⟨p, hp, by rw [e, sA_msgs _ _ e3.out _ hi]⟩
        have G := good_lists (l1 := l1) (l3 := l3) e1.out e3.out IM
        have AR := IM.asc
        clear B9 R8 D8 dc IM em eo
        go_wp2
        go_loopw [12] (fun i wr => ∃ k : Nat, 1 ≤ k ∧ (k ≤ r.length ∨ k = 1) ∧ i = .int .i64 k ∧ ∃ n, wr = w9.drewN n) (fun i _ => r.length - (intOf i).toNat)
        case atStart => exact ⟨1, by omega, by omega, rfl, 0, rfl⟩
        case round =>
          obtain ⟨k, hk1, hk, rfl, n, rfl⟩ := hrel
          by_cases hkr : k < r.length
          · have q0 := R9.cell0 (i := k - 1) (by omega)
            have q1 := R9.cell0 hkr
            have q2 := AR (k - 1) k (by omega) hkr
            go_wp2
            go_quiet (fail)
            go_wp2
            go_roundw
            case rel => exact ⟨k + 1, by omega, by omega, by go_num, _, rfl⟩
            case measure => simp [intOf]; omega
          · go_wp2_with (at_make; refine wpList_make_full _ rfl _ _ 22 rfl w.heap.size 3 i0 (.int .i64 0) 1 Try.underlying22 hi hz0 hz1 .i64 .i64 _ _ r.length rfl rfl rfl rfl (by rw [hz2]; omega) (by unfold maxLen; omega) (by simp; omega) ?_; intro w10 hown hgrow)
            have K10 : Keeps (fun _ => False) w9 w10 := (Keeps.drewN _ _ _).trans (Keeps.grown hgrow (fun k hk => by cases hk))
            have R10 := K10.row R9 (fun h => h)
            have B10 : Below w.heap.size w w10 := B9'.trans (K10.below (by omega) (fun k hk => hk.elim))
            have I10 := IRow.made hown
            clear hown hgrow R9 K10
            go_loopw [14] (fun i wr => ∃ k : Nat, k ≤ r.length ∧ i = .int .i64 k ∧ ∃ l : List Int, Hid (l.length = r.length) ∧ IRow wr w.heap.size w9.heap.size l ∧ Hid (∀ j, j < k → at0 l j = sA r j) ∧ Row wr w.heap.size g cap r ∧ Below w.heap.size w wr) (fun i _ => r.length - (intOf i).toNat)
            case atStart => exact ⟨0, Nat.zero_le _, rfl, _, by simp [Hid], I10, fun j hj => by omega, R10, B10⟩
            case round =>
              clear R10 B10 I10 n hk1 hk hkr
              obtain ⟨k, hk, rfl, l, el, Il, A, R, B⟩ := hrel
              by_cases hkr : k < r.length
              · have q0 := R.cell0 hkr
                have hkl : k < l.length := by have := el.out; omega
                have q1 := Il.cell hkl
                have q2 := Il.free k
                go_wp2
                go_roundw
                case rel =>
                  refine ⟨k + 1, by omega, by go_num, l.set k (sA r k), ?_, Il.store k _, ?_, (Keeps.set1 _ _ _ _).row R (by omega), B.setCell (by simp; omega) _⟩
                  · have := el.out; simp [Hid]; omega
                  · intro j hj
                    rw [at0_set _ _ _ _ hkl]
                    by_cases hjk : j = k
                    · subst hjk; simp
                    · rw [if_neg hjk]; exact A.out j (by omega)
                case measure => simp [intOf]; omega
              · obtain rfl : k = r.length := by omega
                have es : l = snds r := ints_ext (by rw [snds_length]; exact el.out) (fun i hi => by
                  have := el.out
                  rw [at0_snds _ _ (by omega)]; exact A.out i (by omega))
                subst es
                clear A el hkr hk
                have el := snds_length r
                have IS := Il.ints
                have AS := asc_snds AR
                clear Il
                obtain ⟨wf, hwf⟩ : ∃ x, x = wr := ⟨_, rfl⟩
                subst hwf
                go_wp2
                go_loopw [15] (fun i wq => ∃ k n : Nat, k ≤ l0.length ∧ i = .int .i64 k ∧ wq = wf.drewN n) (fun i _ => l0.length - (intOf i).toNat)
                case atStart => exact ⟨0, 0, Nat.zero_le _, rfl, rfl⟩
                case round =>
                  obtain ⟨k, n, hk, rfl, rfl⟩ := hrel
                  by_cases hkl : k < l0.length
                  · obtain ⟨b, off, rfl, hc⟩ := (h0.below B).get (by omega)
                    have q0 := hc k hkl
                    clear hc
                    have fx := F0.out k hkl
                    go_wp2_with fail
                    refine (find_snds w9.heap.size r _ _ (by omega) (IS.below (below_drewN (Below.refl _ _) _)) AR fx).mono ?_
                    rintro e w' ⟨⟨ρ, rfl, hρ⟩, n', hw⟩
                    subst w'
                    clear fx
                    go_wp2
                    go_roundw
                    case rel => exact ⟨k + 1, _, by omega, by go_num, by first | rfl | exact drewN_drewN _ _ _⟩
                    case measure => simp [intOf]; omega
                  · go_wp2
                    clear hkl hk
                    obtain ⟨wg, hwg⟩ : ∃ x, x = wf.drewN n := ⟨_, rfl⟩
                    have Kg : Below wf.heap.size wf wg := by subst hwg; exact below_drewN (Below.refl _ _) _
                    have Rg := R.below Kg
                    have ISg := IS.below Kg
                    have sg := Kg.size
                    have sf := B.size
                    have Bg := below_step B sf Kg
                    rw [← hwg]
                    clear hwg Kg R IS B
                    go_loopw [16] (fun i wq => ∃ k n : Nat, k ≤ l2.length ∧ i = .int .i64 k ∧ wq = wg.drewN n) (fun i _ => l2.length - (intOf i).toNat)
                    case atStart => exact ⟨0, 0, Nat.zero_le _, rfl, rfl⟩
                    case round =>
                      obtain ⟨k, n, hk, rfl, rfl⟩ := hrel
                      by_cases hkl : k < l2.length
                      · obtain ⟨b, off, rfl, hc⟩ := (h2.below Bg).get (by omega)
                        have q0 := hc k hkl
                        clear hc
                        have fx := F2.out k hkl
                        go_wp2_with fail
                        refine (find_snds w9.heap.size r _ _ (by omega) (ISg.below (below_drewN (Below.refl _ _) _)) AR fx).mono ?_
                        rintro e w' ⟨⟨ρ, rfl, hρ⟩, n', hw⟩
                        subst w'
                        clear fx
                        go_wp2
                        go_roundw
                        case rel => exact ⟨k + 1, _, by omega, by go_num, by first | rfl | exact drewN_drewN _ _ _⟩
                        case measure => simp [intOf]; omega
                      · go_wp2
                        clear hkl hk
                        obtain ⟨wh, hwh⟩ : ∃ x, x = wg.drewN n := ⟨_, rfl⟩
                        have Kh : Below wg.heap.size wg wh := by subst hwh; exact below_drewN (Below.refl _ _) _
                        have Rh := Rg.below Kh
                        have sh := Kh.size
                        have Bh := below_step Bg (by omega) Kh
                        rw [← hwh]
                        clear hwh Kh Rg ISg Bg
                        go_loopw [17] (fun i wq => ∃ k : Nat, k ≤ r.length ∧ i = .int .i64 k ∧ Below wh.heap.size wh wq) (fun i _ => r.length - (intOf i).toNat)
                        case atStart => exact ⟨0, Nat.zero_le _, rfl, Below.refl _ _⟩
                        case round =>
                          obtain ⟨k, hk, rfl, Bq⟩ := hrel
                          have Bq' := below_step Bh (by omega) Bq
                          have sq := Bq.size
                          by_cases hkr : k < r.length
                          · have Rq := Rh.below Bq
                            have q0 := Rq.cell0 hkr
                            have q1 := Rq.cell1 hkr
                            have gd := hide (G.out k hkr)
                            have gq := Rq.block.2.1
                            go_wp2_with fail
                            obtain ⟨wi, hwi⟩ : ∃ x, x = wr.alloc (.cells #[.int .i64 (sA r k), .int .i64 (tA r k)] 34) := ⟨_, rfl⟩
                            have Bi : Below wr.heap.size wr wi := by subst hwi; exact (Below.refl _ _).alloc (Nat.le_refl _) _
                            have ci0 : wi.cell? ⟨wr.heap.size, 0, none⟩ = some (.int .i64 (sA r k)) := by subst hwi; simp
                            have ci1 : wi.cell? ⟨wr.heap.size, 1, none⟩ = some (.int .i64 (tA r k)) := by subst hwi; simp
                            have Bi' := below_step Bq' (by omega) Bi
                            have Biq := below_step Bq (by omega) Bi
                            rw [← hwi]
                            clear hwi Bi q0 q1 Rq Bq Bq'
                            refine (find_any a0 c0 l0 (sA r k) wi (by omega) (h0.below Bi') A0).mono ?_
                            rintro e w' ⟨⟨ρ, rfl, hρ⟩, n', hw⟩
                            subst w'
                            have HR := hide hρ
                            clear hρ
                            go_wp2_with fail
                            refine (find_any a2 c2 l2 (sA r k) (wi.drewN n') (by omega) (h2.below (below_drewN Bi' _)) A2).mono ?_
                            rintro e w' ⟨⟨σ, rfl, hσ⟩, n2', hw⟩
                            subst w'
                            rcases unhide HR with ⟨i, rfl, hi1, ei⟩ | ⟨rfl, nni⟩
                            · obtain ⟨b1, o1, rfl, hc1⟩ := (h1.below Bi').get (by have := e1.out; omega)
                              have d1 := hc1 i (by have := e1.out; omega)
                              rcases hσ with ⟨j, rfl, hj1, ej⟩ | ⟨rfl, nnj⟩
                              · obtain ⟨b3, o3, rfl, hc3⟩ := (h3.below Bi').get (by have := e3.out; omega)
                                have d3 := hc3 j (by have := e3.out; omega)
                                have gb := goodL_both (unhide gd) A0 A2 hi1 ei hj1 ej
                                clear ei ej hc1 hc3
                                by_cases hlt : at0 l1 i < at0 l3 j
                                · have gt : (tA r k != at0 l3 j) = false := by simp [gb.1 hlt]
                                  clear gb
                                  go_wp2
                                  go_roundw
                                  case rel => exact ⟨k + 1, by omega, by go_num, by first | exact below_drewN Biq _ | exact below_drewN (below_drewN Biq _) _⟩
                                  case measure => simp [intOf]; omega
                                · have gt : (tA r k != at0 l1 i) = false := by simp [gb.2 (by omega)]
                                  clear gb
                                  go_wp2
                                  go_roundw
                                  case rel => exact ⟨k + 1, by omega, by go_num, by first | exact below_drewN Biq _ | exact below_drewN (below_drewN Biq _) _⟩
                                  case measure => simp [intOf]; omega
                              · have gt : (tA r k != at0 l1 i) = false := by simp [goodL_left (unhide gd) A0 hi1 ei nnj]
                                clear ei nnj hc1
                                go_wp2
                                go_roundw
                                case rel => exact ⟨k + 1, by omega, by go_num, by first | exact below_drewN Biq _ | exact below_drewN (below_drewN Biq _) _⟩
                                case measure => simp [intOf]; omega
                            · rcases hσ with ⟨j, rfl, hj1, ej⟩ | ⟨rfl, nnj⟩
                              · obtain ⟨b3, o3, rfl, hc3⟩ := (h3.below Bi').get (by have := e3.out; omega)
                                have d3 := hc3 j (by have := e3.out; omega)
                                have gt : (tA r k != at0 l3 j) = false := by simp [goodL_right (unhide gd) A2 hj1 ej nni]
                                clear ej nni hc3
                                go_wp2
                                go_roundw
                                case rel => exact ⟨k + 1, by omega, by go_num, by first | exact below_drewN Biq _ | exact below_drewN (below_drewN Biq _) _⟩
                                case measure => simp [intOf]; omega
                              · exact (goodL_none (unhide gd) nni nnj).elim
                          · go_wp2
                            go_ret
                            exact ⟨rfl, Bq'⟩
end Go.Proofs.Qxb6626217a
