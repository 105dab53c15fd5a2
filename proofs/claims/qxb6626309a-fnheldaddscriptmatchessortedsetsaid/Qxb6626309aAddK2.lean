import Derived.Test.Qxb6626309aAddK
namespace Go.Proofs.Qxb6626309a
open Go.ChangeShapes Go.WideShapes Go.ChangeAt Go.RowKit
set_option linter.unusedVariables false
set_option linter.unusedSimpArgs false

set_option maxHeartbeats 1000000 in
set_option maxRecDepth 100000 in
theorem addRange_nil2 (w : World) (base H : Nat) (s n : Int) (h : Held w base H []) (hd : Hd w H (.slice none 0 0)) (h1 : 1 ≤ n) (h2 : n ≤ 18446744073709551615) :
    Calls Try.prog 18 #[.pointer (some ⟨H, 0, none⟩), .agg #[.int .i64 s, .int .u64 n, .int .u64 n]] w fun e w' => e = .returned (.tuple #[]) ∧ ∃ l', Held w' base H l' ∧ (l'.length ≤ 1) ∧ (∀ a b, Mem l' a b ↔ Mem [] a b ∨ (a = s ∧ b = n)) ∧ Bel H w w' := by
  have g := hide h.good
  go_enter Try.func18, Try.ntmps18
  go_wp2_with fail
  obtain ⟨w1, hw1⟩ : ∃ x, x = w.alloc (.cells #[.int .i64 s, .int .u64 n, .int .u64 n] 47) := ⟨_, rfl⟩
  have B1 : Below w.heap.size w w1 := by subst hw1; exact (Below.refl _ _).alloc (Nat.le_refl _) _
  have X1 : Box3 w1 w.heap.size s n n := by subst hw1; exact heap_alloc_new w _
  rw [← hw1]
  clear hw1
  refine (search_any w1 base H [] s (n - 1) (h.below B1)).mono ?_
  rintro e w2 ⟨⟨i, rfl, P⟩, B12⟩
  obtain rfl : i = 0 := by have := (unhide P).le; simpa using this
  have s1 := B1.size
  have B2 := below_step B1 s1 B12
  have X2 := X1.below B12
  have s2 := B2.size
  clear B12 X1 B1 s1
  have M := hide (Merge.start (unhide g) (unhide P) h1 h2)
  go_wp2
  go_loopw [5] (fun jv wr => jv = .int .i64 0 ∧ Box3 wr w.heap.size s n n ∧ Below w.heap.size w wr) (fun jv _ => 0)
  case atStart => exact ⟨rfl, X2, B2⟩
  case round =>
    clear X2 B2 s2
    obtain ⟨rfl, X, B⟩ := hrel
    obtain ⟨wa, hwa⟩ : ∃ x, x = wr := ⟨_, rfl⟩
    subst hwa
    have d0 := (hd.below B).c0
    have sB := B.size
    go_wp2
    go_quiet (fail)
    go_wp2
    obtain ⟨wb, hwb⟩ : ∃ x, x = wa.drewN nq := ⟨_, rfl⟩
    have Bab : Below wa.heap.size wa wb := by subst hwb; exact below_drewN (Below.refl _ _) _
    have Bb := below_step B sB Bab
    have Xb := X.below Bab
    have hdb := hd.below Bb
    have sb := Bb.size
    rw [← hwb]
    have d0 := hdb.c0
    have y0 := Xb.c0
    have y1 := Xb.c1
    have y2 := Xb.c2
    have REP : Hid (∀ (W : World) (V : Nat), Below wb.heap.size wb W → VBlk W V ⟨s, n, n⟩ → wb.heap.size ≤ V → Calls Try.prog 21 #[.slice none 0 0, .int .i64 ((0 : Nat) : Int), .int .i64 ((0 : Nat) : Int), .slice (some ⟨V, 0, none⟩) 1 1] W fun e w' => ∃ G' cap', e = .returned (.slice (some ⟨G', 0, none⟩) (put [] 0 0 ⟨s, n, n⟩).length cap') ∧ RRow w' base G' cap' (put [] 0 0 ⟨s, n, n⟩) ∧ Hd w' H (.slice none 0 0) ∧ Bel H w w' ∧ base ≤ w'.heap.size) := hide (fun W V hB hV hge => by
      have hs := hB.size
      have h0 := hd.lt
      have hbs := h.bs
      refine (replace_any W base V 0 0 (.slice none 0 0) [] ⟨s, n, n⟩ (.inl ⟨rfl, rfl⟩) hV (fun e => by cases e) (by simp) (by omega) (Nat.le_refl _) (Nat.le_refl _)).mono ?_
      rintro e w' ⟨v', rfl, RS0, KV⟩
      obtain ⟨G', cap', rfl, RS⟩ : ∃ G' cap', v' = .slice (some ⟨G', 0, none⟩) (put [] 0 0 ⟨s, n, n⟩).length cap' ∧ RRow w' base G' cap' (put [] 0 0 ⟨s, n, n⟩) := by
        rcases RS0 with ⟨_, h0⟩ | h0
        · simp at h0
        · exact h0
      have K3 := KV W.heap.size (fun k hk => by cases hk)
      have hlt := h.lt
      refine ⟨G', cap', rfl, RS, (K3.block H (by omega) (by omega)).trans (hdb.below hB), ?_, ?_⟩
      · exact ⟨((Bb.mono (by omega)).trans (hB.mono (by omega))).trans (K3.below (by omega) (by omega)), (T26.of_below Bb).trans ((T26.of_below hB).trans (T26.of_kept K3 (fun cur fz e => by rw [Array.getElem?_eq_none (Nat.le_refl _)] at e; cases e)))⟩
      · have := K3.size; omega)
    have GD := hide ((unhide M).good (unhide g) (unhide P) (fun hh => by simp at hh))
    have ME := hide ((unhide M).mem)
    have FIN : Hid (∀ (w3 : World) (G' cap' : Nat), RRow w3 base G' cap' (put [] 0 0 ⟨s, n, n⟩) → Hd w3 H (.slice none 0 0) → Bel H w w3 → base ≤ w3.heap.size → ∃ l', Held (w3.setCell ⟨H, 0, none⟩ (.slice (some ⟨G', 0, none⟩) (put [] 0 0 ⟨s, n, n⟩).length cap')) base H l' ∧ (l'.length ≤ 1) ∧ (∀ a b, Mem l' a b ↔ Mem [] a b ∨ (a = s ∧ b = n)) ∧ Bel H w (w3.setCell ⟨H, 0, none⟩ (.slice (some ⟨G', 0, none⟩) (put [] 0 0 ⟨s, n, n⟩).length cap'))) := hide (fun w3 G' cap' RS H3 B3 bs3 => by
      have hG' := RS.block.1
      have hlt := h.lt
      refine ⟨put [] 0 0 ⟨s, n, n⟩, ⟨⟨_, H3.set _, .inr ⟨G', cap', rfl, RS.same (Below.heap_setCell _ _ _ _ (by show G' ≠ H; omega))⟩⟩, hlt, by simpa using bs3, unhide GD, by simp [put]⟩, by simp [put], unhide ME, ⟨B3.below.setCell (Nat.le_refl _) _, B3.t26.trans (T26.set_hd H3 _)⟩⟩)
    have dA : ∀ o : Obj, (wb.alloc o).cell? ⟨H, 0, none⟩ = some (.slice none 0 0) := fun o => (hdb.below ((Below.refl _ _).alloc (Nat.le_refl _) o)).c0
    clear hwb Bab X
    go_region_with ((go_at_call 21; refine (unhide REP _ wb.heap.size ((Below.refl _ _).alloc (Nat.le_refl _) _).drew (heap_alloc_new wb _) (Nat.le_refl _)).mono ?_; rintro e w3 ⟨G', cap', rfl, RS, H3, B3, bs3⟩; have z0 := H3.c0; have z1 := H3.fr))
    all_goals
      go_end0
      exact ⟨rfl, unhide FIN _ _ _ RS H3 B3 bs3⟩
end Go.Proofs.Qxb6626309a
