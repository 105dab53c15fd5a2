import Derived.Test.Qxb6626248aDoorOver
namespace Go.Proofs.Qxb6626248aDoor
open Go.ChangeShapes Go.WideShapes Go.ChangeAt Go.RowKit
set_option linter.unusedVariables false
set_option linter.unusedSimpArgs false

theorem labelMap_v (a : Option Addr) (c : Nat) (l : Labels) (w : World) (hl : l.length ≤ 9223372036854775807) (h : Labs w a l) :
    Calls Tryd.prog 9 #[.slice a l.length c] w fun e w' => ∃ pv, e = .returned (.map pv) ∧ MapV w' (.map pv) (labMap l) ∧ Below w.heap.size w w' ∧ ∀ k, pv = some k → w.heap.size ≤ k := by
  cases a with
  | none =>
    obtain rfl : l = [] := by
      rcases h with h | ⟨b, off, h, _⟩
      · exact h
      · cases h
    refine (labelMap_nil w c).mono ?_
    rintro e w' ⟨rfl, rfl⟩
    exact ⟨none, rfl, .inl ⟨rfl, rfl⟩, Below.refl _ _, fun k hk => by cases hk⟩
  | some x =>
    refine (labelMap_any x c l w hl h).mono ?_
    rintro e w' ⟨rfl, M, B⟩
    exact ⟨some w.heap.size, rfl, .inr ⟨_, rfl, M⟩, B, fun k hk => by simp at hk; omega⟩

theorem firsts_le (rs : List Req) : (firsts rs).length ≤ rs.length := by
  have := firsts_len rs rs.length (Nat.le_refl _)
  rwa [List.take_length] at this

set_option maxRecDepth 100000 in
set_option maxHeartbeats 4000000 in
theorem law1 (a : Option Addr) (c : Nat) (rs : List Req) (a1 : Option Addr) (c1 : Nat) (l : Labels) (w : World) (hl : rs.length ≤ 9223372036854775807) (hl1 : l.length ≤ 9223372036854775807) (h : Reqs w a rs) (h1 : Labs w a1 l) (G : Globs w) :
    Calls Tryd.prog 3 #[.slice a rs.length c, .slice a1 l.length c1] w fun e w' => e = .returned (.bool true) ∧ Below w.heap.size w w' := by
  go_enter Tryd.func3, Tryd.ntmps3
  go_wp2_with fail
  refine (bytes1_any a c rs a1 c1 l w hl hl1 h h1).mono ?_
  rintro e w' ⟨⟨b, rfl⟩, hw⟩
  subst w'
  cases b with
  | false =>
    go_wp2
    go_ret
    exact ⟨rfl, Below.refl _ _⟩
  | true =>
    go_wp2_with fail
    refine (over_any a c rs a1 c1 l none 0 [] w hl hl1 (by simp) h h1 (.inl rfl)).mono ?_
    rintro e w' ⟨hr, hw⟩
    subst w'
    rcases hr with rfl | ⟨rfl, hv, _⟩
    · go_wp2
      go_ret
      exact ⟨rfl, Below.refl _ _⟩
    · have hs := labMap_str l (fun i hi => by have := hv i hi; omega)
      clear hv
      go_wp2_with fail
      refine (build_any a c rs w hl h).mono ?_
      rintro e w1 ⟨f, rfl, M, SL, B1⟩
      have hfl : f.length ≤ 9223372036854775807 := by rw [SL.1]; have := firsts_le rs; omega
      have s1 := B1.size
      go_wp2_with fail
      obtain ⟨w2, hw2⟩ : ∃ x, x = w1.alloc (.cells #[.map (some (w.heap.size + 1)), .int .i64 (nPres (firsts rs))] 28) := ⟨_, rfl⟩
      have B2 : Below w1.heap.size w1 w2 := by subst hw2; exact (Below.refl _ _).alloc (Nat.le_refl _) _
      have X2 : w2.heap[w1.heap.size]? = some (.cells #[.map (some (w.heap.size + 1)), .int .i64 (nPres (firsts rs))] 28 (0, 0)) := by subst hw2; exact heap_alloc_new w1 _
      rw [← hw2]
      have B2' := below_step B1 s1 B2
      have M2 := M.same (B2.block _ M.lt)
      have SL2 := SL.below B2
      clear hw2 M SL B1 B2
      have e0 := cell_at X2 0 rfl
      have e1 := cell_at X2 1 rfl
      have x2 := lt_of_block X2
      have G2 := G.below B2'
      have BD : Below w2.heap.size w2 w2.drew := (Below.refl _ _).drew
      have C9 := hide (labelMap_v a1 c1 l w2.drew hl1 (h1.below (below_step B2' (by omega) BD)))
      have hnd := firsts_nodup rs
      have M2d := M2.same (w' := w2.drew) rfl
      have SL2d := SL2.below BD
      have G2d := G2.below BD
      have B2d := below_step B2' (by omega) BD
      have X2d := (BD.block _ x2).trans X2
      clear M2 SL2 G2 BD X2
      go_region_held3 (fun w' => w'.cell? ⟨w1.heap.size, 0, none⟩ = some (.map (some (w.heap.size + 1))) ∧ w'.cell? ⟨w1.heap.size, 1, none⟩ = some (.int .i64 (nPres (firsts rs)))) (go_keep) ((first | (go_at_call 9; refine (unhide C9).mono ?_; rintro e w3 ⟨pv, rfl, MV3, B3, _⟩; have M3 := M2d.same (B3.block _ M2d.lt); have SL3 := SL2d.below B3; have G3 := G2d.below B3; have X3 := (B3.block _ (lt_of_block X2d)).trans X2d; have y0 := cell_at X3 0 rfl; have y1 := cell_at X3 1 rfl; have B3' := below_step B2d (by have := B2d.size; omega) B3; clear C9 M2d SL2d G2d B3 X2d) | (go_at_call 8; refine (matches_any (w.heap.size + 2) (w.heap.size + 1) f (labMap l) (firsts rs) pv w3 M3 SL3 hnd MV3 hs G3 hfl).mono ?_; rintro e w4 ⟨rfl, B4⟩; have X4 := (B4.block _ (lt_of_block X3)).trans X3; have z0 := cell_at X4 0 rfl; have z1 := cell_at X4 1 rfl; have B4' := below_step B3' (by have := B3'.size; omega) B4)))
      go_wp2_with fail
      refine (labelMap_v a1 c1 l w4 hl1 (h1.below B4')).mono ?_
      rintro e w5 ⟨pv5, rfl, MV5, B5, _⟩
      have B5' := below_step B4' (by have := B4'.size; omega) B5
      go_wp2_with fail
      have MA := model_any a c rs (.map pv5) (labMap l) w5 hl (h.below B5') MV5 hs
      rw [selects_eq] at MA
      refine MA.mono ?_
      rintro e w6 ⟨rfl, B6⟩
      have B6' := below_step B5' (by have := B5'.size; omega) B6
      generalize allMeet (firsts rs) (labMap l) = r
      cases r with
      | true =>
        go_wp2
        go_ret
        exact ⟨rfl, B6'⟩
      | false =>
        go_wp2
        go_ret
        exact ⟨rfl, B6'⟩
end Go.Proofs.Qxb6626248aDoor
