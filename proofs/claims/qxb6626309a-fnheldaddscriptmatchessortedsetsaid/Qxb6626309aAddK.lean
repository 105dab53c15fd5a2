import Derived.Test.Qxb6626309aAdd3
namespace Go.Proofs.Qxb6626309a
open Go.ChangeShapes Go.WideShapes Go.ChangeAt Go.RowKit
set_option linter.unusedVariables false
set_option linter.unusedSimpArgs false

/-- the blocks of ids are as they were -/
def T26 (w w' : World) : Prop := ∀ (k : Nat) (cur : Array Value) (fz : Nat × Nat), w.heap[k]? = some (.cells cur 26 fz) → w'.heap[k]? = w.heap[k]?
theorem T26.refl (w : World) : T26 w w := fun _ _ _ _ => rfl
theorem T26.trans {w w' w'' : World} (h : T26 w w') (k : T26 w' w'') : T26 w w'' := fun i cur fz e => (k i cur fz ((h i cur fz e).trans e)).trans (h i cur fz e)
theorem blk_lt {w : World} {k : Nat} {o : Obj} (e : w.heap[k]? = some o) : k < w.heap.size := (Array.getElem?_eq_some_iff.1 e).1
theorem T26.of_below {w w' : World} (h : Below w.heap.size w w') : T26 w w' := fun i cur fz e => h.block i (blk_lt e)
theorem T26.of_kept {S : Nat} {w w' : World} (h : Kept1 S w w') (hS : ∀ (cur : Array Value) (fz : Nat × Nat), w.heap[S]? ≠ some (.cells cur 26 fz)) : T26 w w' := fun i cur fz e => h.block i (fun e' => hS cur fz (e' ▸ e)) (blk_lt e)
theorem RRow.t26 {w : World} {base G cap : Nat} {l : List Rg} (h : RRow w base G cap l) : ∀ (cur : Array Value) (fz : Nat × Nat), w.heap[G]? ≠ some (.cells cur 26 fz) := fun cur fz e => by
  obtain ⟨tl, h1, _⟩ := h
  rw [h1] at e
  simp at e
theorem T26.set_hd {w : World} {H : Nat} {v : Value} (h : Hd w H v) (x : Value) : T26 w (w.setCell ⟨H, 0, none⟩ x) := fun i cur fz e =>
  Below.heap_setCell w ⟨H, 0, none⟩ x i (fun e' => by
    have h2 : w.heap[H]? = some (.cells #[v, .pointer none, .bool false] 31 (0, 0)) := h
    have e2 : i = H := e'
    rw [e2, h2] at e
    simp at e)
structure Bel (H : Nat) (w w' : World) : Prop where
  below : Below H w w'
  t26 : T26 w w'

set_option maxHeartbeats 1000000 in
set_option maxRecDepth 100000 in
theorem addRange_some2 (w : World) (base H G cap : Nat) (l : List Rg) (s n : Int) (h : Held w base H l) (hd : Hd w H (.slice (some ⟨G, 0, none⟩) l.length cap)) (R : RRow w base G cap l) (hl : l.length < 8192) (h1 : 1 ≤ n) (h2 : n ≤ 18446744073709551615) :
    Calls Try.prog 18 #[.pointer (some ⟨H, 0, none⟩), .agg #[.int .i64 s, .int .u64 n, .int .u64 n]] w fun e w' => e = .returned (.tuple #[]) ∧ ∃ l', Held w' base H l' ∧ (l'.length ≤ l.length + 1) ∧ (∀ a b, Mem l' a b ↔ Mem l a b ∨ (a = s ∧ b = n)) ∧ Bel H w w' := by
  have g := hide h.good
  go_enter Try.func18, Try.ntmps18
  go_wp2_with fail
  obtain ⟨w1, hw1⟩ : ∃ x, x = w.alloc (.cells #[.int .i64 s, .int .u64 n, .int .u64 n] 47) := ⟨_, rfl⟩
  have B1 : Below w.heap.size w w1 := by subst hw1; exact (Below.refl _ _).alloc (Nat.le_refl _) _
  have X1 : Box3 w1 w.heap.size s n n := by subst hw1; exact heap_alloc_new w _
  rw [← hw1]
  clear hw1
  refine (search_any w1 base H l s (n - 1) (h.below B1)).mono ?_
  rintro e w2 ⟨⟨i, rfl, P⟩, B12⟩
  have s1 := B1.size
  have B2 := below_step B1 s1 B12
  have X2 := X1.below B12
  have s2 := B2.size
  have xl2 := X2.lt
  clear B12 X1 B1 s1
  have M0 := hide (Merge.start (unhide g) (unhide P) h1 h2)
  go_wp2
  go_loopw [5] (fun jv wr => ∃ (j : Nat) (F L : Int), jv = .int .i64 (j : Int) ∧ Hid (Merge l s n i j F L) ∧ Box3 wr w.heap.size s F L ∧ Below w.heap.size w wr) (fun jv _ => l.length - (intOf jv).toNat)
  case atStart => exact ⟨i, n, n, rfl, M0, X2, B2⟩
  case round =>
    clear M0 X2 B2 s2 xl2
    obtain ⟨j, F, L, rfl, M, X, B⟩ := hrel
    obtain ⟨wa, hwa⟩ : ∃ x, x = wr := ⟨_, rfl⟩
    subst hwa
    have jl := (unhide M).jl
    have d0 := (hd.below B).c0
    have x0 := X.c0
    have x1 := X.c1
    have x2 := X.c2
    have sB := B.size
    have F1 := (unhide M).F1
    have L2 := (unhide M).L2
    by_cases hj : j < l.length
    · have e1 : decide ((j : Int) < (l.length : Int)) = true := by simpa using hj
      obtain ⟨c0, c1, c2⟩ := (R.below B).cells hj
      have rg := (unhide g).rng j hj
      obtain ⟨sv, hsv⟩ : ∃ x, x = sR l j := ⟨_, rfl⟩
      obtain ⟨fv, hfv⟩ : ∃ x, x = fR l j := ⟨_, rfl⟩
      obtain ⟨lv, hlv⟩ : ∃ x, x = lR l j := ⟨_, rfl⟩
      have Sv := hide hsv
      have Fv := hide hfv
      have Lv := hide hlv
      rw [← hsv] at c0
      rw [← hfv] at c1 rg
      rw [← hlv] at c2 rg
      clear hsv hfv hlv
      by_cases q1 : sv = s
      · have e2 : (sv == s) = true := by simpa using q1
        have Q1 := hide q1
        clear q1
        by_cases q2 : fv - 1 ≤ L
        · have e3 : decide (fv - 1 ≤ L) = true := by simpa using q2
          have M2 := hide ((unhide M).step (unhide g) (unhide P) hj (by rw [← unhide Sv]; exact unhide Q1) (by rw [← unhide Fv]; exact q2))
          rw [← unhide Fv, ← unhide Lv] at M2
          go_wp2
          go_quiet (fail)
          go_wp2
          obtain ⟨wb, hwb⟩ : ∃ x, x = wa.drewN nq := ⟨_, rfl⟩
          have Bab : Below wa.heap.size wa wb := by subst hwb; exact below_drewN (Below.refl _ _) _
          have Bb := below_step B sB Bab
          have Xb := X.below Bab
          rw [← hwb]
          clear hwb Bab c0 c1 c2 d0 x0 x1 x2 X
          obtain ⟨c0, c1, c2⟩ := (R.below Bb).cells hj
          rw [← unhide Fv] at c1
          rw [← unhide Lv] at c2
          have d0 := (hd.below Bb).c0
          have x1 := Xb.c1
          have fr1 := Xb.fr 1
          go_region
          obtain ⟨wc, hwc⟩ : ∃ x, x = (wb.setCell ⟨w.heap.size, 1, none⟩ (.int .u64 (min F fv))).drew := ⟨_, rfl⟩
          have Bc : Below w.heap.size w wc := by subst hwc; exact (Bb.setCell (Nat.le_refl _) _).drew
          have Xc : Box3 wc w.heap.size s (min F fv) L := by subst hwc; exact Xb.set1 _
          rw [← hwc]
          clear hwc Xb c0 c1 c2 d0 x1 fr1
          obtain ⟨c0, c1, c2⟩ := (R.below Bc).cells hj
          rw [← unhide Lv] at c2
          have d0 := (hd.below Bc).c0
          have x2 := Xc.c2
          have fr2 := Xc.fr 2
          go_wp2
          go_region
          obtain ⟨wd, hwd⟩ : ∃ x, x = (wc.setCell ⟨w.heap.size, 2, none⟩ (.int .u64 (max L lv))).drew := ⟨_, rfl⟩
          have Bd : Below w.heap.size w wd := by subst hwd; exact (Bc.setCell (Nat.le_refl _) _).drew
          have Xd : Box3 wd w.heap.size s (min F fv) (max L lv) := by subst hwd; exact Xc.set2 _
          rw [← hwd]
          clear hwd Xc c0 c1 c2 d0 x2 fr2
          go_wp2
          go_roundw
          case rel => exact ⟨j + 1, _, _, by go_num, M2, Xd, Bd⟩
          case measure => simp [intOf]; omega
        · have e3 : decide (fv - 1 ≤ L) = false := by simpa using q2
          have stop : Hid (j < l.length → sR l j = s → L < fR l j - 1) := hide (fun _ _ => by rw [← unhide Fv]; omega)
          go_wp2
          go_quiet (fail)
          go_wp2
          obtain ⟨wb, hwb⟩ : ∃ x, x = wa.drewN nq := ⟨_, rfl⟩
          have Bab : Below wa.heap.size wa wb := by subst hwb; exact below_drewN (Below.refl _ _) _
          have Bb := below_step B sB Bab
          have Xb := X.below Bab
          have hdb := hd.below Bb
          have RRb := R.below Bb
          have sb := Bb.size
          rw [← hwb]
          have d0 := hdb.c0
          have y0 := Xb.c0
          have y1 := Xb.c1
          have y2 := Xb.c2
          have REP : Hid (∀ (W : World) (V : Nat), Below wb.heap.size wb W → VBlk W V ⟨s, F, L⟩ → wb.heap.size ≤ V → Calls Try.prog 21 #[.slice (some ⟨G, 0, none⟩) l.length cap, .int .i64 (i : Int), .int .i64 (j : Int), .slice (some ⟨V, 0, none⟩) 1 1] W fun e w' => ∃ G' cap', e = .returned (.slice (some ⟨G', 0, none⟩) (put l i j ⟨s, F, L⟩).length cap') ∧ RRow w' base G' cap' (put l i j ⟨s, F, L⟩) ∧ Hd w' H (.slice (some ⟨G, 0, none⟩) l.length cap) ∧ Bel H w w' ∧ base ≤ w'.heap.size) := hide (fun W V hB hV hge => by
            refine (replace_any W base V i j (.slice (some ⟨G, 0, none⟩) l.length cap) l ⟨s, F, L⟩ (.inr ⟨G, cap, rfl, RRb.below hB⟩) hV (fun e => by have := RRb.block.2; simp [Value.ownBlock] at e; omega) (by omega) (by have := hB.size; have := h.bs; omega) (unhide M).ij (unhide M).jl).mono ?_
            rintro e w' ⟨v', rfl, RS0, KV⟩
            obtain ⟨G', cap', rfl, RS⟩ : ∃ G' cap', v' = .slice (some ⟨G', 0, none⟩) (put l i j ⟨s, F, L⟩).length cap' ∧ RRow w' base G' cap' (put l i j ⟨s, F, L⟩) := by
              rcases RS0 with ⟨_, h0⟩ | h0
              · simp at h0
              · exact h0
            have K3 := KV G (fun k hk => by simp [Value.ownBlock] at hk; exact hk.symm)
            have hG := RRb.block.1
            have hlt := h.lt
            have hs := hB.size
            have h0 := hd.lt
            refine ⟨G', cap', rfl, RS, (K3.block H (by omega) (by omega)).trans (hdb.below hB), ?_, ?_⟩
            · exact ⟨((Bb.mono (by omega)).trans (hB.mono (by omega))).trans (K3.below (by omega) (by omega)), (T26.of_below Bb).trans ((T26.of_below hB).trans (T26.of_kept K3 (RRb.below hB).t26))⟩
            · have := K3.size; have := h.bs; omega)
          have GD := hide ((unhide M).good (unhide g) (unhide P) (unhide stop))
          have ME := hide ((unhide M).mem)
          have LN := hide (put_length (l := l) (r := ⟨s, F, L⟩) (unhide M).ij (unhide M).jl)
          have dA : ∀ o : Obj, (wb.alloc o).cell? ⟨H, 0, none⟩ = some (.slice (some ⟨G, 0, none⟩) l.length cap) := fun o => (hdb.below ((Below.refl _ _).alloc (Nat.le_refl _) o)).c0
          have FIN : Hid (∀ (w3 : World) (G' cap' : Nat), RRow w3 base G' cap' (put l i j ⟨s, F, L⟩) → Hd w3 H (.slice (some ⟨G, 0, none⟩) l.length cap) → Bel H w w3 → base ≤ w3.heap.size → ∃ l', Held (w3.setCell ⟨H, 0, none⟩ (.slice (some ⟨G', 0, none⟩) (put l i j ⟨s, F, L⟩).length cap')) base H l' ∧ (l'.length ≤ l.length + 1) ∧ (∀ a b, Mem l' a b ↔ Mem l a b ∨ (a = s ∧ b = n)) ∧ Bel H w (w3.setCell ⟨H, 0, none⟩ (.slice (some ⟨G', 0, none⟩) (put l i j ⟨s, F, L⟩).length cap'))) := hide (fun w3 G' cap' RS H3 B3 bs3 => by
            have hG' := RS.block.1
            have hlt := h.lt
            have hln := unhide LN
            have hij := (unhide M).ij
            have hjl := (unhide M).jl
            refine ⟨put l i j ⟨s, F, L⟩, ⟨⟨_, H3.set _, .inr ⟨G', cap', rfl, RS.same (Below.heap_setCell _ _ _ _ (by show G' ≠ H; omega))⟩⟩, hlt, by simpa using bs3, unhide GD, by omega⟩, by omega, unhide ME, ⟨B3.below.setCell (Nat.le_refl _) _, B3.t26.trans (T26.set_hd H3 _)⟩⟩)
          clear hwb Bab X
          go_region_with ((go_at_call 21; refine (unhide REP _ wb.heap.size ((Below.refl _ _).alloc (Nat.le_refl _) _).drew (heap_alloc_new wb _) (Nat.le_refl _)).mono ?_; rintro e w3 ⟨G', cap', rfl, RS, H3, B3, bs3⟩; have z0 := H3.c0; have z1 := H3.fr))
          all_goals
            go_end0
            exact ⟨rfl, unhide FIN _ _ _ RS H3 B3 bs3⟩
      · have e2 : (sv == s) = false := by simpa using q1
        have stop : Hid (j < l.length → sR l j = s → L < fR l j - 1) := hide (fun _ hs => absurd hs (by rw [← unhide Sv]; exact q1))
        go_wp2
        go_quiet (fail)
        go_wp2
        obtain ⟨wb, hwb⟩ : ∃ x, x = wa.drewN nq := ⟨_, rfl⟩
        have Bab : Below wa.heap.size wa wb := by subst hwb; exact below_drewN (Below.refl _ _) _
        have Bb := below_step B sB Bab
        have Xb := X.below Bab
        have hdb := hd.below Bb
        have RRb := R.below Bb
        have sb := Bb.size
        rw [← hwb]
        have d0 := hdb.c0
        have y0 := Xb.c0
        have y1 := Xb.c1
        have y2 := Xb.c2
        have REP : Hid (∀ (W : World) (V : Nat), Below wb.heap.size wb W → VBlk W V ⟨s, F, L⟩ → wb.heap.size ≤ V → Calls Try.prog 21 #[.slice (some ⟨G, 0, none⟩) l.length cap, .int .i64 (i : Int), .int .i64 (j : Int), .slice (some ⟨V, 0, none⟩) 1 1] W fun e w' => ∃ G' cap', e = .returned (.slice (some ⟨G', 0, none⟩) (put l i j ⟨s, F, L⟩).length cap') ∧ RRow w' base G' cap' (put l i j ⟨s, F, L⟩) ∧ Hd w' H (.slice (some ⟨G, 0, none⟩) l.length cap) ∧ Bel H w w' ∧ base ≤ w'.heap.size) := hide (fun W V hB hV hge => by
          refine (replace_any W base V i j (.slice (some ⟨G, 0, none⟩) l.length cap) l ⟨s, F, L⟩ (.inr ⟨G, cap, rfl, RRb.below hB⟩) hV (fun e => by have := RRb.block.2; simp [Value.ownBlock] at e; omega) (by omega) (by have := hB.size; have := h.bs; omega) (unhide M).ij (unhide M).jl).mono ?_
          rintro e w' ⟨v', rfl, RS0, KV⟩
          obtain ⟨G', cap', rfl, RS⟩ : ∃ G' cap', v' = .slice (some ⟨G', 0, none⟩) (put l i j ⟨s, F, L⟩).length cap' ∧ RRow w' base G' cap' (put l i j ⟨s, F, L⟩) := by
            rcases RS0 with ⟨_, h0⟩ | h0
            · simp at h0
            · exact h0
          have K3 := KV G (fun k hk => by simp [Value.ownBlock] at hk; exact hk.symm)
          have hG := RRb.block.1
          have hlt := h.lt
          have hs := hB.size
          have h0 := hd.lt
          refine ⟨G', cap', rfl, RS, (K3.block H (by omega) (by omega)).trans (hdb.below hB), ?_, ?_⟩
          · exact ⟨((Bb.mono (by omega)).trans (hB.mono (by omega))).trans (K3.below (by omega) (by omega)), (T26.of_below Bb).trans ((T26.of_below hB).trans (T26.of_kept K3 (RRb.below hB).t26))⟩
          · have := K3.size; have := h.bs; omega)
        have GD := hide ((unhide M).good (unhide g) (unhide P) (unhide stop))
        have ME := hide ((unhide M).mem)
        have LN := hide (put_length (l := l) (r := ⟨s, F, L⟩) (unhide M).ij (unhide M).jl)
        have dA : ∀ o : Obj, (wb.alloc o).cell? ⟨H, 0, none⟩ = some (.slice (some ⟨G, 0, none⟩) l.length cap) := fun o => (hdb.below ((Below.refl _ _).alloc (Nat.le_refl _) o)).c0
        have FIN : Hid (∀ (w3 : World) (G' cap' : Nat), RRow w3 base G' cap' (put l i j ⟨s, F, L⟩) → Hd w3 H (.slice (some ⟨G, 0, none⟩) l.length cap) → Bel H w w3 → base ≤ w3.heap.size → ∃ l', Held (w3.setCell ⟨H, 0, none⟩ (.slice (some ⟨G', 0, none⟩) (put l i j ⟨s, F, L⟩).length cap')) base H l' ∧ (l'.length ≤ l.length + 1) ∧ (∀ a b, Mem l' a b ↔ Mem l a b ∨ (a = s ∧ b = n)) ∧ Bel H w (w3.setCell ⟨H, 0, none⟩ (.slice (some ⟨G', 0, none⟩) (put l i j ⟨s, F, L⟩).length cap'))) := hide (fun w3 G' cap' RS H3 B3 bs3 => by
          have hG' := RS.block.1
          have hlt := h.lt
          have hln := unhide LN
          have hij := (unhide M).ij
          have hjl := (unhide M).jl
          refine ⟨put l i j ⟨s, F, L⟩, ⟨⟨_, H3.set _, .inr ⟨G', cap', rfl, RS.same (Below.heap_setCell _ _ _ _ (by show G' ≠ H; omega))⟩⟩, hlt, by simpa using bs3, unhide GD, by omega⟩, by omega, unhide ME, ⟨B3.below.setCell (Nat.le_refl _) _, B3.t26.trans (T26.set_hd H3 _)⟩⟩)
        clear hwb Bab X
        go_region_with ((go_at_call 21; refine (unhide REP _ wb.heap.size ((Below.refl _ _).alloc (Nat.le_refl _) _).drew (heap_alloc_new wb _) (Nat.le_refl _)).mono ?_; rintro e w3 ⟨G', cap', rfl, RS, H3, B3, bs3⟩; have z0 := H3.c0; have z1 := H3.fr))
        all_goals
          go_end0
          exact ⟨rfl, unhide FIN _ _ _ RS H3 B3 bs3⟩
    · have e1 : decide ((j : Int) < (l.length : Int)) = false := by simpa using hj
      have stop : Hid (j < l.length → sR l j = s → L < fR l j - 1) := hide (fun hh => absurd hh hj)
      go_wp2
      go_quiet (fail)
      go_wp2
      obtain ⟨wb, hwb⟩ : ∃ x, x = wa.drewN nq := ⟨_, rfl⟩
      have Bab : Below wa.heap.size wa wb := by subst hwb; exact below_drewN (Below.refl _ _) _
      have Bb := below_step B sB Bab
      have Xb := X.below Bab
      have hdb := hd.below Bb
      have RRb := R.below Bb
      have sb := Bb.size
      rw [← hwb]
      have d0 := hdb.c0
      have y0 := Xb.c0
      have y1 := Xb.c1
      have y2 := Xb.c2
      have REP : Hid (∀ (W : World) (V : Nat), Below wb.heap.size wb W → VBlk W V ⟨s, F, L⟩ → wb.heap.size ≤ V → Calls Try.prog 21 #[.slice (some ⟨G, 0, none⟩) l.length cap, .int .i64 (i : Int), .int .i64 (j : Int), .slice (some ⟨V, 0, none⟩) 1 1] W fun e w' => ∃ G' cap', e = .returned (.slice (some ⟨G', 0, none⟩) (put l i j ⟨s, F, L⟩).length cap') ∧ RRow w' base G' cap' (put l i j ⟨s, F, L⟩) ∧ Hd w' H (.slice (some ⟨G, 0, none⟩) l.length cap) ∧ Bel H w w' ∧ base ≤ w'.heap.size) := hide (fun W V hB hV hge => by
        refine (replace_any W base V i j (.slice (some ⟨G, 0, none⟩) l.length cap) l ⟨s, F, L⟩ (.inr ⟨G, cap, rfl, RRb.below hB⟩) hV (fun e => by have := RRb.block.2; simp [Value.ownBlock] at e; omega) (by omega) (by have := hB.size; have := h.bs; omega) (unhide M).ij (unhide M).jl).mono ?_
        rintro e w' ⟨v', rfl, RS0, KV⟩
        obtain ⟨G', cap', rfl, RS⟩ : ∃ G' cap', v' = .slice (some ⟨G', 0, none⟩) (put l i j ⟨s, F, L⟩).length cap' ∧ RRow w' base G' cap' (put l i j ⟨s, F, L⟩) := by
          rcases RS0 with ⟨_, h0⟩ | h0
          · simp at h0
          · exact h0
        have K3 := KV G (fun k hk => by simp [Value.ownBlock] at hk; exact hk.symm)
        have hG := RRb.block.1
        have hlt := h.lt
        have hs := hB.size
        have h0 := hd.lt
        refine ⟨G', cap', rfl, RS, (K3.block H (by omega) (by omega)).trans (hdb.below hB), ?_, ?_⟩
        · exact ⟨((Bb.mono (by omega)).trans (hB.mono (by omega))).trans (K3.below (by omega) (by omega)), (T26.of_below Bb).trans ((T26.of_below hB).trans (T26.of_kept K3 (RRb.below hB).t26))⟩
        · have := K3.size; have := h.bs; omega)
      have GD := hide ((unhide M).good (unhide g) (unhide P) (unhide stop))
      have ME := hide ((unhide M).mem)
      have LN := hide (put_length (l := l) (r := ⟨s, F, L⟩) (unhide M).ij (unhide M).jl)
      have dA : ∀ o : Obj, (wb.alloc o).cell? ⟨H, 0, none⟩ = some (.slice (some ⟨G, 0, none⟩) l.length cap) := fun o => (hdb.below ((Below.refl _ _).alloc (Nat.le_refl _) o)).c0
      have FIN : Hid (∀ (w3 : World) (G' cap' : Nat), RRow w3 base G' cap' (put l i j ⟨s, F, L⟩) → Hd w3 H (.slice (some ⟨G, 0, none⟩) l.length cap) → Bel H w w3 → base ≤ w3.heap.size → ∃ l', Held (w3.setCell ⟨H, 0, none⟩ (.slice (some ⟨G', 0, none⟩) (put l i j ⟨s, F, L⟩).length cap')) base H l' ∧ (l'.length ≤ l.length + 1) ∧ (∀ a b, Mem l' a b ↔ Mem l a b ∨ (a = s ∧ b = n)) ∧ Bel H w (w3.setCell ⟨H, 0, none⟩ (.slice (some ⟨G', 0, none⟩) (put l i j ⟨s, F, L⟩).length cap'))) := hide (fun w3 G' cap' RS H3 B3 bs3 => by
        have hG' := RS.block.1
        have hlt := h.lt
        have hln := unhide LN
        have hij := (unhide M).ij
        have hjl := (unhide M).jl
        refine ⟨put l i j ⟨s, F, L⟩, ⟨⟨_, H3.set _, .inr ⟨G', cap', rfl, RS.same (Below.heap_setCell _ _ _ _ (by show G' ≠ H; omega))⟩⟩, hlt, by simpa using bs3, unhide GD, by omega⟩, by omega, unhide ME, ⟨B3.below.setCell (Nat.le_refl _) _, B3.t26.trans (T26.set_hd H3 _)⟩⟩)
      clear hwb Bab X
      go_region_with ((go_at_call 21; refine (unhide REP _ wb.heap.size ((Below.refl _ _).alloc (Nat.le_refl _) _).drew (heap_alloc_new wb _) (Nat.le_refl _)).mono ?_; rintro e w3 ⟨G', cap', rfl, RS, H3, B3, bs3⟩; have z0 := H3.c0; have z1 := H3.fr))
      all_goals
        go_end0
        exact ⟨rfl, unhide FIN _ _ _ RS H3 B3 bs3⟩
end Go.Proofs.Qxb6626309a
