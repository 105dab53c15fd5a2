import Derived.Test.Qxb6626309aIns2
namespace Go.Proofs.Qxb6626309a
open Go.ChangeShapes Go.WideShapes Go.ChangeAt Go.RowKit
set_option linter.unusedVariables false
set_option linter.unusedSimpArgs false

theorem insert_any (w : World) (base V i : Nat) (v : Value) (l : List Rg) (r : Rg) (hv : RSl w base v l) (hV : VBlk w V r) (hne : v.ownBlock ≠ some V) (hl : l.length ≤ 8192) (hb : base ≤ w.heap.size) (hi : i ≤ l.length) :
    Calls Try.prog 22 #[v, .int .i64 (i : Int), .slice (some ⟨V, 0, none⟩) 1 1] w fun e w' => ∃ v', e = .returned v' ∧ RSl w' base v' (l.take i ++ r :: l.drop i) ∧ KeptV v w w' := by
  by_cases he : i = l.length
  · subst he
    refine (insert_end w base V v l r hv hV hl hb).mono ?_
    rintro e w' ⟨v', rfl, hR, hK⟩
    exact ⟨v', rfl, by simpa using hR, hK⟩
  · have hlt : i < l.length := by omega
    have len2 : (l.take i ++ r :: l.drop i).length = l.length + 1 := by simp; omega
    rcases hv with ⟨rfl, rfl⟩ | ⟨G, cap, rfl, R⟩
    · simp at hlt
    · by_cases hr : l.length + 1 ≤ cap
      · refine (insert_shift w base V G cap i l r R hV (fun e => hne (by rw [e]; rfl)) hl hlt hr).mono ?_
        rintro e w' ⟨rfl, hR, hK⟩
        exact ⟨_, rfl, .inr ⟨G, cap, by rw [len2], hR⟩, fun S hS => by obtain rfl := hS G rfl; exact hK⟩
      · refine (insert_grow w base V G cap i l r R hV hl hlt hr hb).mono ?_
        rintro e w' ⟨C, rfl, hR, hK⟩
        exact ⟨_, rfl, .inr ⟨_, C, by rw [len2], hR⟩, fun S _ => Kept1.of_below hK⟩

theorem RRow.shrink {w : World} {base G cap : Nat} {l : List Rg} (h : RRow w base G cap l) (i : Nat) : RRow w base G cap (l.take i) := by
  obtain ⟨tl, h1, h2, h3, h4, h5⟩ := h
  have e : flat l ++ tl = flat (l.take i) ++ (flat (l.drop i) ++ tl) := by rw [← List.append_assoc, ← flat_append, List.take_append_drop]
  rw [e] at h1 h2
  exact ⟨_, h1, h2, by simp; omega, h4, h5⟩
def zRow (n : Nat) : List Value := (Builtin.zeroCells (Value.agg #[.int .i64 0, .int .u64 0, .int .u64 0]).cells n).toList
theorem zRow_length (n : Nat) : (zRow n).length = n * 3 := by simp [zRow, Builtin.zeroCells, Value.cells]
theorem zRow_one (n : Nat) : ∀ v ∈ zRow n, v.oneCell' = true := by
  intro v hv
  simp [zRow, Builtin.zeroCells, Value.cells] at hv
  obtain ⟨k, hk, rfl⟩ := hv
  have : k % 3 = 0 ∨ k % 3 = 1 ∨ k % 3 = 2 := by omega
  rcases this with h | h | h <;> simp [h] <;> rfl
/-- clear of the cells behind the elements -/
theorem RRow.clear {w : World} {base G cap : Nat} {l : List Rg} (h : RRow w base G cap l) (n c ty : Nat) (hn : 0 < n) (hfit : l.length + n ≤ cap) :
    ∃ w', (Builtin.clear_ #[28] ty #[.slice (some ⟨G, l.length * 3, none⟩) n c]).run Try.prog w = .ok (.tuple #[]) w' ∧ RRow w' base G cap l ∧ Kept1 G w w' := by
  obtain ⟨tl, h1, h2, h3, h4, h5⟩ := h
  have fl := flat_length l
  have zl := zRow_length n
  have htl : n * 3 ≤ tl.length := by simp at h2; omega
  refine ⟨_, run_clear_wide (P := Try.prog) w 28 47 ty _ Try.underlying28 zero47 G (l.length * 3) n c hn _ 47 h1 (zRow n) rfl (by rw [h2]; omega) (zRow_one n), ?_, Kept1.setRow _ _⟩
  have e : splice (flat l ++ tl) (l.length * 3) (zRow n) = flat l ++ (zRow n ++ tl.drop (n * 3)) := by
    rw [← fl, splice_at _ _ _ (by omega), zl, List.append_assoc]
  have hs := setRow_at h1 (splice (flat l ++ tl) (l.length * 3) (zRow n))
  rw [e] at hs ⊢
  exact ⟨_, hs, by simp at h2 ⊢; omega, h3, h4, h5⟩

set_option maxHeartbeats 4000000 in
set_option maxRecDepth 100000 in
theorem replace_same (w : World) (base V i : Nat) (v : Value) (l : List Rg) (r : Rg) (hv : RSl w base v l) (hV : VBlk w V r) (hne : v.ownBlock ≠ some V) (hl : l.length ≤ 8192) (hb : base ≤ w.heap.size) (hi : i ≤ l.length) :
    Calls Try.prog 21 #[v, .int .i64 (i : Int), .int .i64 (i : Int), .slice (some ⟨V, 0, none⟩) 1 1] w fun e w' => ∃ v', e = .returned v' ∧ RSl w' base v' (l.take i ++ r :: l.drop i) ∧ KeptV v w w' := by
  have I := hide (insert_any w base V i v l r hv hV hne hl hb hi)
  rcases hv with ⟨rfl, rfl⟩ | ⟨G, cap, rfl, R⟩
  · obtain rfl : i = 0 := by simpa using hi
    go_enter Try.func21, Try.ntmps21
    go_wp2_with fail
    refine (unhide I).mono ?_
    rintro e w' ⟨v', rfl, hR, hK⟩
    go_wp2
    go_ret
    exact ⟨_, rfl, hR, hK⟩
  · have hcap : l.length ≤ cap := by obtain ⟨_, _, _, h, _⟩ := R; exact h
    by_cases hci : cap = i
    · subst hci
      go_enter Try.func21, Try.ntmps21
      go_wp2_with fail
      refine (unhide I).mono ?_
      rintro e w' ⟨v', rfl, hR, hK⟩
      go_wp2
      go_ret
      exact ⟨_, rfl, hR, hK⟩
    · go_enter Try.func21, Try.ntmps21
      go_wp2_with fail
      refine (unhide I).mono ?_
      rintro e w' ⟨v', rfl, hR, hK⟩
      go_wp2
      go_ret
      exact ⟨_, rfl, hR, hK⟩

set_option maxHeartbeats 4000000 in
set_option maxRecDepth 100000 in
theorem replace_tail (w : World) (base V G cap i : Nat) (l : List Rg) (r : Rg) (R : RRow w base G cap l) (hV : VBlk w V r) (hl : l.length ≤ 8192) (hi : i < l.length) :
    Calls Try.prog 21 #[.slice (some ⟨G, 0, none⟩) l.length cap, .int .i64 (i : Int), .int .i64 (l.length : Int), .slice (some ⟨V, 0, none⟩) 1 1] w fun e w' => e = .returned (.slice (some ⟨G, 0, none⟩) (i + 1) cap) ∧ RRow w' base G cap (l.take i ++ [r]) ∧ Kept1 G w w' := by
  obtain ⟨i0, hi0, hz⟩ := Option.map_eq_some_iff.1 info47
  simp only [Prod.mk.injEq] at hz
  obtain ⟨hz0, hz1, hz2⟩ := hz
  have hcap : l.length ≤ cap := by obtain ⟨_, _, _, h, _⟩ := R; exact h
  have hcm : cap ≤ 9223372036854775807 := by obtain ⟨_, _, _, _, h, _⟩ := R; unfold maxLen at h; omega
  have lt : (l.take i).length = i := by simp; omega
  have R1 := (R.shrink i).owns
  rw [lt] at R1
  have ef : flat (l.take i) ++ cellsR r = flat (l.take i ++ [r]) := by rw [flat_append]; simp [flat]
  have l2 : (l.take i ++ [r]).length = i + 1 := by simp; omega
  have hc := hV.cell
  have hR1 := hide R1
  have hc0 := hide hc
  have L2 := hide l2
  have KR0 : ∀ w2, w2.ownsRow base 47 3 (.slice (some ⟨G, 0, none⟩) (i + 1) cap) (i + 1) (flat (l.take i) ++ cellsR r) → RRow w2 base G cap (l.take i ++ [r]) := fun w2 h => RRow.of_owns (by rw [l2, ← ef]; exact h)
  have KK0 : ∀ w2, w.grownBy w2 (some G) → Kept1 G w w2 := fun w2 hg => ⟨hg.os, hg.tape, hg.output, hg.size, fun k hk hlt => hg.block k hlt (fun e => hk (by cases e; rfl))⟩
  have KR := hide KR0
  have KK := hide KK0
  clear hc R1 R hV lt l2 ef KR0 KK0
  by_cases hlast : i + 1 = l.length
  · have hd : decide ((i : Int) + 1 < (l.length : Int)) = false := by simp; omega
    clear hlast
    go_enter Try.func21, Try.ntmps21
    go_wp2_with (at_builtin; refine wpList_append_fits _ rfl _ _ 28 rfl base 47 i0 3 Try.underlying28 hi0 hz1 G i cap (flat (l.take i)) rfl (unhide hR1) ⟨V, 0, none⟩ 1 1 (cellsR r) rfl rfl (unhide hc0) (by intro u hu; simp [cellsR] at hu; rcases hu with rfl | rfl | rfl <;> rfl) (by omega) ?_; intro w2 hown hgrow)
    have RR := unhide KR w2 hown
    have K2 := unhide KK w2 hgrow
    go_ret
    exact ⟨rfl, RR, K2⟩
  · have hd : decide ((i : Int) + 1 < (l.length : Int)) = true := by simp; omega
    have hlt : i + 1 < l.length := by omega
    go_enter Try.func21, Try.ntmps21
    go_wp2_with (at_builtin; refine wpList_append_fits _ rfl _ _ 28 rfl base 47 i0 3 Try.underlying28 hi0 hz1 G i cap (flat (l.take i)) rfl (unhide hR1) ⟨V, 0, none⟩ 1 1 (cellsR r) rfl rfl (unhide hc0) (by intro u hu; simp [cellsR] at hu; rcases hu with rfl | rfl | rfl <;> rfl) (by omega) ?_; intro w2 hown hgrow)
    have RR := unhide KR w2 hown
    have K2 := unhide KK w2 hgrow
    have CL := RR.clear (l.length - (i + 1)) (cap - (i + 1)) 0 (by omega) (by rw [unhide L2]; omega)
    rw [unhide L2] at CL
    obtain ⟨w3, hcl, R3, K3⟩ := CL
    clear RR hown hgrow
    rw [hcl]
    go_wp2
    go_ret
    exact ⟨rfl, R3, K2.trans K3⟩
end Go.Proofs.Qxb6626309a
