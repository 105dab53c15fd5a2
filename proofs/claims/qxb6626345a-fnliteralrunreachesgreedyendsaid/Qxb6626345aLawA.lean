import Derived.Test.Qxb6626345aScan
namespace Go.Proofs.Qxb6626345a
open Go.ChangeShapes Go.WideShapes Go.ChangeAt Go.RowKit
set_option linter.unusedVariables false
set_option linter.unusedSimpArgs false

theorem wd_size (l : List Int) (p : Nat) : (wd l p).size ≤ 5 := by
  unfold wd
  split
  · decide
  · split
    · decide
    · split <;> decide
theorem okOf_e (s : ByteArray) : okOf s = !s.toList.isEmpty := by
  unfold okOf
  cases s.toList <;> rfl
set_option maxHeartbeats 4000000 in
theorem lawA (a0 : Option Addr) (c0 : Nat) (l0 : List Int) (a1 : Option Addr) (c1 : Nat) (l1 : List Int) (x : Int) (w : World) (h0 : Byts w a0 l0) (h1 : Byts w a1 l1)
    (z0 : Hid (a0 = none → c0 = 0 ∧ l0 = [])) (z1 : Hid (a1 = none → c1 = 0 ∧ l1 = [])) (B0 : Hid (IsB l0)) (B1 : Hid (IsB l1)) (m0 : l0.length ≤ 9223372036854775807) (m1 : l1.length ≤ 9223372036854775807) :
    Calls Try.prog 3 #[.slice a0 l0.length c0, .slice a1 l1.length c1, .int .i64 x] w fun e w' => e = .returned (.bool true) ∧ Below w.heap.size w w' := by
  obtain ⟨i0, hi, hz⟩ := Option.map_eq_some_iff.1 info5
  simp only [Prod.mk.injEq] at hz
  obtain ⟨hz0, hz1, hz2⟩ := hz
  go_enter Try.func3, Try.ntmps3
  go_wp2_with fail
  refine (bytes3_any a0 a1 l0.length c0 l1.length c1 x w m0 m1).mono ?_
  rintro e w' ⟨⟨r, rfl, hr⟩, hw⟩
  subst w'
  cases r with
  | false =>
    go_wp2
    go_ret
    exact ⟨rfl, Below.refl _ _⟩
  | true =>
    have hsum := hr rfl
    clear hr m0 m1
    by_cases g0 : l0.length ≤ 524288
    case neg =>
      go_wp2
      go_ret
      exact ⟨rfl, Below.refl _ _⟩
    by_cases g1 : l1.length ≤ 524288
    case neg =>
      go_wp2
      go_ret
      exact ⟨rfl, Below.refl _ _⟩
    by_cases g2 : 0 ≤ x ∧ x ≤ 1048576
    case neg =>
      by_cases g3 : x < 0
      · go_wp2
        go_ret
        exact ⟨rfl, Below.refl _ _⟩
      · go_wp2
        go_ret
        exact ⟨rfl, Below.refl _ _⟩
    obtain ⟨p, rfl⟩ : ∃ p : Nat, x = p := ⟨x.toNat, by omega⟩
    have hp : p ≤ 1048576 := by omega
    clear g2
    go_wp2_with fail
    refine (clone_any w a0 c0 l0 h0 (unhide z0) (by omega)).mono ?_
    rintro e w1 ⟨⟨r0, rfl, C0⟩, K1⟩
    have s1 := K1.size
    have h1' := h1.below K1
    go_wp2_with fail
    refine (clone_any w1 a1 c1 l1 h1' (unhide z1) (by omega)).mono ?_
    rintro e w2 ⟨⟨r1, rfl, C1⟩, K2⟩
    have s2 := K2.size
    have K2' := below_step K1 s1 K2
    have C0' := C0.below K2
    clear K1 K2 C0 h1' h0 h1 z0 z1
    go_wp2_with (at_make; refine wpList_make_full _ rfl _ _ 22 rfl w2.heap.size 5 i0 (.int .u8 0) 1 Try.underlying22 hi hz0 hz1 .i64 .i64 _ _ (l0.length + l1.length) (by first | rfl | (simp; done) | omega) (by first | rfl | (simp; done) | omega) rfl rfl (by rw [hz2]; omega) (by unfold maxLen; omega) (by simp) ?_; intro w3 hown hgrow)
    have K3 : Below w2.heap.size w2 w3 := (Below.refl _ _).grown hgrow (Nat.le_refl _) (fun _ h => by cases h)
    have J3 := BRow.made hown
    clear hown hgrow
    go_loopw [8] (fun i wr => ∃ k : Nat, k ≤ l0.length ∧ i = .int .i64 (k : Int) ∧ ∃ r : List Int, Hid (r.length = l0.length + l1.length) ∧ BRow wr w2.heap.size w2.heap.size r ∧ Hid (∀ j, j < k → at0 r j = at0 l0 j) ∧ Below w2.heap.size w2 wr) (fun i _ => l0.length - (intOf i).toNat)
    case atStart => exact ⟨0, Nat.zero_le _, rfl, _, by simp [Hid], J3, fun j hj => by omega, K3⟩
    case round =>
      clear K3 J3
      obtain ⟨k, hk, rfl, r, el, R, A, B⟩ := hrel
      by_cases hkl : k < l0.length
      · obtain ⟨b, off, rfl, hc⟩ := (C0'.below B).byts.get (by omega)
        have q0 := hc k hkl
        clear hc
        have hkr : k < r.length := by have := unhide el; omega
        have q1 := R.cell hkr
        have q2 := R.free k
        have hrl : l0.length + l1.length = r.length := (unhide el).symm
        go_wp2
        go_roundw
        case rel =>
          refine ⟨k + 1, by omega, by go_num, r.set k (at0 l0 k), ?_, R.store k _, ?_, B.setCell (by simp) _⟩
          · have := unhide el; simp [Hid]; omega
          · intro j hj
            rw [at0_set _ _ _ _ hkr]
            by_cases hjk : j = k
            · subst hjk; simp
            · rw [if_neg hjk]; exact A.out j (by omega)
        case measure => simp [intOf]; omega
      · obtain rfl : k = l0.length := by omega
        obtain ⟨w4, hw4⟩ : ∃ x, x = wr := ⟨_, rfl⟩
        subst hw4
        clear hk hkl
        go_wp2
        go_loopw [9] (fun i wr => ∃ k : Nat, k ≤ l1.length ∧ i = .int .i64 (k : Int) ∧ ∃ r : List Int, Hid (r.length = l0.length + l1.length) ∧ BRow wr w2.heap.size w2.heap.size r ∧ Hid ((∀ j, j < l0.length → at0 r j = at0 l0 j) ∧ ∀ j, j < k → at0 r (l0.length + j) = at0 l1 j) ∧ Below w2.heap.size w2 wr) (fun i _ => l1.length - (intOf i).toNat)
        case atStart => exact ⟨0, Nat.zero_le _, rfl, r, el, R, hide ⟨unhide A, fun j hj => by omega⟩, B⟩
        case round =>
          clear R A B el
          obtain ⟨k, hk, rfl, r, el, R, A, B⟩ := hrel
          by_cases hkl : k < l1.length
          · obtain ⟨b, off, rfl, hc⟩ := (C1.below B).byts.get (by omega)
            have q0 := hc k hkl
            clear hc
            have hkr : l0.length + k < r.length := by have := unhide el; omega
            have q1 := R.cell hkr
            have q2 := R.free (l0.length + k)
            go_wp2
            go_roundw
            case rel =>
              refine ⟨k + 1, by omega, by go_num, r.set (l0.length + k) (at0 l1 k), ?_, R.store (l0.length + k) _, ?_, B.setCell (by simp) _⟩
              · have := unhide el; simp [Hid]; omega
              · refine ⟨fun j hj => ?_, fun j hj => ?_⟩
                · rw [at0_set _ _ _ _ hkr, if_neg (by omega)]; exact A.out.1 j hj
                · rw [at0_set _ _ _ _ hkr]
                  by_cases hjk : j = k
                  · subst hjk; simp
                  · rw [if_neg (by omega)]; exact A.out.2 j (by omega)
            case measure => simp [intOf]; omega
          · obtain rfl : k = l1.length := by omega
            obtain rfl : r = l0 ++ l1 := ints_ext (by simp; exact unhide el) (fun i hi => by
              have hlen := unhide el
              by_cases h : i < l0.length
              · rw [at0_append_left h]; exact A.out.1 i h
              · have h2 := A.out.2 (i - l0.length) (by omega)
                rw [show l0.length + (i - l0.length) = i by omega] at h2
                rw [h2, ← at0_append_right (a := l0), show l0.length + (i - l0.length) = i by omega])
            clear A el hk hkl
            obtain ⟨w5, hw5⟩ : ∃ x, x = wr := ⟨_, rfl⟩
            subst hw5
            have s5 := B.size
            have K5 := below_step K2' (by omega) B
            have C5 := C1.below B
            have bl := R.block
            clear C1 C0' B K2'
            go_wp2_with fail
            refine (wordAt w5 r1 l1.length l1 p C5.byts (by omega) (by omega)).mono ?_
            rintro e w6 ⟨rfl, n6, hw6⟩
            have B6 : Below w5.heap.size w5 w6 := by subst hw6; exact below_drewN (Below.refl _ _) _
            have s6 := B6.size
            have K6 := below_step K5 (by omega) B6
            have C6 := C5.below B6
            have R6 := R.below B6
            clear hw6 B6 C5 R K5
            obtain ⟨s, hs⟩ : ∃ x, x = wd l1 p := ⟨_, rfl⟩
            have S1 := hide hs
            rw [← hs]
            clear hs
            have hs5 : s.size ≤ 5 := by rw [unhide S1]; exact wd_size _ _
            go_wp2_with fail
            obtain ⟨w7, hw7⟩ : ∃ x, x = w6.alloc (.cells #[.slice r1 l1.length l1.length, .int .i64 (p : Int)] 28) := ⟨_, rfl⟩
            have B7 : Below w6.heap.size w6 w7 := by subst hw7; exact (Below.refl _ _).alloc (Nat.le_refl _) _
            have X7 : Scan w7 w6.heap.size r1 l1.length l1.length p := by subst hw7; exact heap_alloc_new w6 _
            have s7 := B7.size
            have s7' := X7.lt
            have K7 := below_step K6 (by omega) B7
            have C7 := C6.below B7
            have R7 := R6.below B7
            rw [← hw7]
            clear hw7 B7 C6 R6 K6
            refine (lit_scan w7 w6.heap.size w1.heap.size r1 l1.length l1 p p ((p : Int) + (s.size : Int)) rfl (by rw [unhide S1]) X7 C7 (by omega) (Nat.le_refl _) (by omega) (unhide B1)).mono ?_
            rintro e w8 ⟨rfl, X8, K8⟩
            rw [← unhide S1, okOf_e]
            have s8 := K8.size
            have B8 := K8.below (B := w6.heap.size) (Nat.le_refl _) (by omega)
            have K8' : Below w.heap.size w w8 := K7.trans (B8.mono (by omega))
            have R8 := R7.same (K8.block _ (by omega) (by omega))
            have bl8 := R8.block
            clear K8 B8 K7 R7 C7 X7
            have x8 := X8.lt
            have hsum2 : (l0 ++ l1).length = l0.length + l1.length := by simp
            go_wp2_with fail
            obtain ⟨w9, hw9⟩ : ∃ x, x = w8.alloc (.cells #[.slice (some ⟨w2.heap.size, 0, none⟩) (l0.length + l1.length) (l0.length + l1.length), .int .i64 ((l0.length : Int) + (p : Int))] 28) := ⟨_, rfl⟩
            have B9 : Below w8.heap.size w8 w9 := by subst hw9; exact (Below.refl _ _).alloc (Nat.le_refl _) _
            have X9 : Scan w9 w8.heap.size (some ⟨w2.heap.size, 0, none⟩) (l0 ++ l1).length (l0.length + l1.length) ((l0.length : Int) + (p : Int)) := by subst hw9; rw [hsum2]; exact heap_alloc_new w8 _
            have s9 := B9.size
            have s9' := X9.lt
            have K9 := below_step K8' (by omega) B9
            have Y9 := X8.below B9
            have R9 := R8.below B9
            rw [← hw9]
            clear hw9 B9 X8 R8 K8'
            refine (lit_scan w9 w8.heap.size w2.heap.size _ (l0.length + l1.length) (l0 ++ l1) (l0.length + p) _ ((l0.length : Int) + ((p : Int) + (s.size : Int))) (by omega) (by rw [wd_shift, ← unhide S1]; omega) X9 (.inr ⟨_, rfl, Nat.le_refl _, R9⟩) (by omega) (by omega) (by omega) (isB_append (unhide B0) (unhide B1))).mono ?_
            rintro e w10 ⟨rfl, X10, K10⟩
            rw [wd_shift, ← unhide S1, okOf_e]
            have B10 := K10.below (B := w8.heap.size) (Nat.le_refl _) (by omega)
            have K10' : Below w.heap.size w w10 := K9.trans (B10.mono (by omega))
            have Y10 : Scan w10 w6.heap.size r1 l1.length l1.length ((p : Int) + (s.size : Int)) := (K10.block _ (by omega) (by omega)).trans Y9
            clear K10 B10 K9 Y9 X9 R9
            have d1 := X10.c1
            have d2 := Y10.c1
            clear X10 Y10
            have eqs : (s.toList == s.toList) = true := by simp
            go_wp2
            go_ret
            exact ⟨ret_bool (by simp), K10'⟩
end Go.Proofs.Qxb6626345a
