import Derived.Test.Qxb6626309aRep
namespace Go.Proofs.Qxb6626309a
open Go.ChangeShapes Go.WideShapes Go.ChangeAt Go.RowKit
set_option linter.unusedVariables false
set_option linter.unusedSimpArgs false

theorem ret_slice {a : Option Addr} {n n' c c' : Nat} (h : n = n') (k : c = c') : Ending.returned (.slice a n c) = .returned (.slice a n' c') := by rw [h, k]
theorem clear0 (x : Option Addr) (n c : Nat) (hn : n = 0) (W : World) : (Builtin.clear_ #[28] 0 #[.slice x n c]).run Try.prog W = .ok (.tuple #[]) W := by
  subst hn
  cases x <;> simp [Builtin.clear_, run_underlying Try.underlying28]

theorem splice_mid (A M B tl r : List Value) (hr : r.length ≤ M.length) (hM : 0 < M.length) : splice (splice (A ++ (M ++ (B ++ tl))) A.length r) (A.length + r.length) B = A ++ (r ++ B) ++ (M ++ (B ++ tl)).drop (r.length + B.length) :=
  splice_fill A (M ++ (B ++ tl)) r B (by simp; omega)

set_option maxHeartbeats 4000000 in
set_option maxRecDepth 100000 in
theorem replace_mid (w : World) (base V G cap i j : Nat) (l : List Rg) (r : Rg) (R : RRow w base G cap l) (hV : VBlk w V r) (hne : V ≠ G) (hl : l.length ≤ 8192) (hi : i < j) (hj : j < l.length) :
    Calls Try.prog 21 #[.slice (some ⟨G, 0, none⟩) l.length cap, .int .i64 (i : Int), .int .i64 (j : Int), .slice (some ⟨V, 0, none⟩) 1 1] w fun e w' => e = .returned (.slice (some ⟨G, 0, none⟩) (i + 1 + (l.length - j)) cap) ∧ RRow w' base G cap (l.take i ++ r :: l.drop j) ∧ Kept1 G w w' := by
  have hVl := vlt hV
  have lT : (l.take i ++ r :: l.drop j).length = i + 1 + (l.length - j) := by simp; omega
  obtain ⟨W1, W2, K2, RR, cp1, cp2⟩ : ∃ W1 W2 : World, Kept1 G w W2 ∧ RRow W2 base G cap (l.take i ++ r :: l.drop j) ∧
      ((Builtin.copy_ #[28, 28] 3 #[.slice (some ⟨G, i * 3, none⟩) (i + 1 + (l.length - j) - i) (cap - i), .slice (some ⟨V, 0, none⟩) 1 1]).run Try.prog w.drew = .ok (goInt 1) W1) ∧
      ∀ dl, dl = l.length - j → (Builtin.copy_ #[28, 28] 3 #[.slice (some ⟨G, (i + 1) * 3, none⟩) dl (cap - (i + 1)), .slice (some ⟨G, j * 3, none⟩) (l.length - j) (cap - j)]).run Try.prog W1.drew = .ok (goInt (l.length - j : Nat)) W2 := by
    obtain ⟨tl, hG, hlen, hn, hm, hb⟩ := R
    obtain ⟨A, hA⟩ : ∃ A, A = flat (l.take i) := ⟨_, rfl⟩
    obtain ⟨M, hM⟩ : ∃ M, M = flat ((l.take j).drop i) := ⟨_, rfl⟩
    obtain ⟨B, hB⟩ : ∃ B, B = flat (l.drop j) := ⟨_, rfl⟩
    have lA : A.length = i * 3 := by rw [hA, flat_length]; simp; omega
    have lM : M.length = (j - i) * 3 := by rw [hM, flat_length]; simp; omega
    have lB : B.length = (l.length - j) * 3 := by rw [hB, flat_length]; simp
    have oB : ∀ v ∈ B, v.oneCell' = true := by rw [hB]; exact flat_one _
    have el : l = l.take i ++ ((l.take j).drop i ++ l.drop j) := by
      have e1 : (l.take j).take i = l.take i := by rw [List.take_take, Nat.min_eq_left (by omega)]
      rw [← List.append_assoc, ← e1, List.take_append_drop, List.take_append_drop]
    have eAB : flat l ++ tl = A ++ (M ++ (B ++ tl)) := by
      rw [hA, hM, hB]
      conv => lhs; rw [el]
      rw [flat_append, flat_append]
      simp
    rw [eAB] at hG hlen
    have b1 : w.drew.heap[G]? = some (.cells (A ++ (M ++ (B ++ tl))).toArray 47 (0, 0)) := hG
    have cpv := copy_v w.drew V G (i * 3) r _ b1 hV (by simp; omega) 3 (i + 1 + (l.length - j) - i) (cap - i) (by omega)
    have b2 := setRow_at b1 (splice (A ++ (M ++ (B ++ tl))) (i * 3) (cellsR r))
    have lc : (cellsR r).length = 3 := rfl
    have l1 : (splice (A ++ (M ++ (B ++ tl))) (i * 3) (cellsR r)).length = (A ++ (M ++ (B ++ tl))).length := length_splice _ _ _ (by simp; omega)
    obtain ⟨W1, hW1⟩ : ∃ x, x = w.drew.setRow G (splice (A ++ (M ++ (B ++ tl))) (i * 3) (cellsR r)).toArray := ⟨_, rfl⟩
    rw [← hW1] at cpv b2
    have K1 : Kept1 G w W1 := by rw [hW1]; exact (Kept1.drew _).trans (Kept1.setRow _ _)
    have b2' : W1.drew.heap[G]? = some (.cells (splice (A ++ (M ++ (B ++ tl))) (i * 3) (cellsR r)).toArray 47 (0, 0)) := b2
    have b3 := setRow_at b2' (splice (splice (A ++ (M ++ (B ++ tl))) (i * 3) (cellsR r)) ((i + 1) * 3) B)
    have e : splice (splice (A ++ (M ++ (B ++ tl))) (i * 3) (cellsR r)) ((i + 1) * 3) B = flat (l.take i ++ r :: l.drop j) ++ (M ++ (B ++ tl)).drop (3 + B.length) := by
      rw [← lA, show (i + 1) * 3 = A.length + (cellsR r).length by omega, splice_mid A M B tl (cellsR r) (by omega) (by omega), flat_append, hA, hB]
      rfl
    refine ⟨W1, W1.drew.setRow G (splice (splice (A ++ (M ++ (B ++ tl))) (i * 3) (cellsR r)) ((i + 1) * 3) B).toArray, K1.trans ((Kept1.drew _).trans (Kept1.setRow _ _)), ?_, cpv, ?_⟩
    · rw [e] at b3 ⊢
      exact ⟨_, b3, by rw [List.length_append, flat_length, lT]; simp at hlen ⊢; omega, by omega, hm, hb⟩
    · intro dl hdl
      subst hdl
      have hmin : Nat.min (l.length - j) (l.length - j) = l.length - j := Nat.min_self _
      have := run_copy_wide (P := Try.prog) W1.drew 28 28 3 47 G ((i + 1) * 3) (l.length - j) (cap - (i + 1)) ⟨G, j * 3, none⟩ (l.length - j) (cap - j) _ 47 B 3 Try.underlying28 size47 b2' (by rw [hmin, lB])
        (fun q v hq => by
          have hq' := (List.getElem?_eq_some_iff.1 hq).1
          rw [add_plain, cells_at b2', ← lA, splice_at A (M ++ (B ++ tl)) (cellsR r) (by simp; omega)]
          have h3 : A.length + 3 ≤ j * 3 + q := by omega
          rw [List.getElem?_append_right (by simp; omega), List.getElem?_drop, List.length_append, lc, show 3 + (j * 3 + q - (A.length + 3)) = M.length + q by omega, List.getElem?_append_right (by omega), show M.length + q - M.length = q by omega, List.getElem?_append_left hq']
          exact hq) (by rw [l1]; simp; omega) oB
      rw [hmin] at this
      exact this
  have hcap : l.length ≤ cap := by obtain ⟨_, _, _, h, _⟩ := R; exact h
  have hcm : cap ≤ 9223372036854775807 := by obtain ⟨_, _, _, _, h, _⟩ := R; unfold maxLen at h; omega
  have hb1 : ¬ (cap = i) := by omega
  have hb2 : ¬ (cap = j) := by omega
  have hb3 : (i : Int) ≤ (l.length : Int) := by omega
  have hb4 : (j : Int) ≤ (l.length : Int) := by omega
  have hb5 : ¬ (cap = i + 1) := by omega
  have lT' := hide lT
  clear lT R
  have mixed : Try.prog.follows .mixedOrders = true := by kernel_rfl
  go_enter Try.func21, Try.ntmps21
  go_wp2
  go_region
  go_wp2
  have hw1 : IntKind.i64.wrap ((i : Int) + 1) = (i : Int) + 1 := by rw [IntKind.wrap_i64]; omega
  have hb0 : (0 : Int) ≤ (i : Int) + 1 := by omega
  have htn : ((i : Int) + 1).toNat = i + 1 := by omega
  have hb6 : (i : Int) + 1 ≤ (i : Int) + 1 + ((l.length - j : Nat) : Int) := by omega
  have cp2a := cp2 (l.length - j) rfl
  have cp2b := cp2 (i + 1 + (l.length - j) - (i + 1)) (by omega)
  go_region
  by_cases hz : j = i + 1
  · go_wp2
    all_goals
      rw [clear0 _ _ _ (by omega)]
      go_wp2
      go_ret
      exact ⟨ret_slice (by omega) (by omega), RR, K2⟩
  · have CL := RR.clear (l.length - (i + 1 + (l.length - j))) (cap - (i + 1 + (l.length - j))) 0 (by omega) (by rw [unhide lT']; omega)
    rw [unhide lT'] at CL
    obtain ⟨w3, hcl, R3, K3⟩ := CL
    have hb7 : ¬ (cap = i + 1 + (l.length - j)) := by omega
    go_wp2
    go_ret
    exact ⟨rfl, R3, K2.trans K3⟩

theorem replace_any (w : World) (base V i j : Nat) (v : Value) (l : List Rg) (r : Rg) (hv : RSl w base v l) (hV : VBlk w V r) (hne : v.ownBlock ≠ some V) (hl : l.length ≤ 8192) (hb : base ≤ w.heap.size) (hi : i ≤ j) (hj : j ≤ l.length) :
    Calls Try.prog 21 #[v, .int .i64 (i : Int), .int .i64 (j : Int), .slice (some ⟨V, 0, none⟩) 1 1] w fun e w' => ∃ v', e = .returned v' ∧ RSl w' base v' (l.take i ++ r :: l.drop j) ∧ KeptV v w w' := by
  by_cases he : i = j
  · subst he
    exact replace_same w base V i v l r hv hV hne hl hb hj
  · rcases hv with ⟨rfl, rfl⟩ | ⟨G, cap, rfl, R⟩
    · simp at hj; omega
    · by_cases hjl : j = l.length
      · subst hjl
        refine (replace_tail w base V G cap i l r R hV hl (by omega)).mono ?_
        rintro e w' ⟨rfl, hR, hK⟩
        refine ⟨_, rfl, .inr ⟨G, cap, ?_, by simpa using hR⟩, fun S hS => by obtain rfl := hS G rfl; exact hK⟩
        simp; omega
      · refine (replace_mid w base V G cap i j l r R hV (fun e => hne (by rw [e]; rfl)) hl (by omega) (by omega)).mono ?_
        rintro e w' ⟨rfl, hR, hK⟩
        refine ⟨_, rfl, .inr ⟨G, cap, ?_, hR⟩, fun S hS => by obtain rfl := hS G rfl; exact hK⟩
        simp; omega
end Go.Proofs.Qxb6626309a
