import Derived.Test.Qxb6626248aDoorMatch
namespace Go.Proofs.Qxb6626248aDoor
open Go.ChangeShapes Go.WideShapes Go.ChangeAt Go.RowKit
open Go.ChangeMaps (setBlock)
set_option linter.unusedVariables false
set_option linter.unusedSimpArgs false

/-- the object's labels, a later one on the same key wins -/
def labMap (l : Labels) : Ents := l.foldl (fun f p => put f p.1 (.string p.2)) []
theorem labMap_snoc (l : Labels) (p : ByteArray × ByteArray) : labMap (l ++ [p]) = put (labMap l) p.1 (.string p.2) := by
  unfold labMap
  rw [List.foldl_append]
  rfl
theorem lab_take (l : Labels) (k : Nat) (h : k < l.length) : l.take (k + 1) = l.take k ++ [(lkA l k, lvA l k)] := by
  have e : (lkA l k, lvA l k) = l[k] := by simp [lkA, lvA, List.getElem?_eq_getElem h]
  rw [e]
  exact List.take_succ_eq_append_getElem h

theorem setBlock_below {B b : Nat} {a w : World} (h : Below B a w) (hb : B ≤ b) (o : Obj) : Below B a (setBlock w b o) :=
  h.trans ⟨rfl, rfl, rfl, by simp [setBlock], fun k hk => by simp [setBlock, show b ≠ k by omega]⟩

theorem labelMap_nil (w : World) (c : Nat) : Calls Tryd.prog 9 #[.slice none 0 c] w fun e w' => e = .returned (.map none) ∧ w' = w := by
  have hq := fun w => Lib.run_eql_slice_nil (P := Tryd.prog) w 23 39 none 0 c 0 0 Tryd.underlying23
  go_enter Tryd.func9, Tryd.ntmps9
  go_wp2
  go_ret
  exact ⟨rfl, rfl⟩

theorem labelMap_any (x : Addr) (c : Nat) (l : Labels) (w : World) (hl : l.length ≤ 9223372036854775807) (h : Labs w (some x) l) :
    Calls Tryd.prog 9 #[.slice (some x) l.length c] w fun e w' => e = .returned (.map (some w.heap.size)) ∧ SMap w' w.heap.size (labMap l) ∧ Below w.heap.size w w' := by
  have hq := fun w => Lib.run_eql_slice_nil (P := Tryd.prog) w 23 39 (some x) l.length c 0 0 Tryd.underlying23
  have hmm := @run_makeMap Tryd.prog
  go_enter Tryd.func9, Tryd.ntmps9
  go_wp2
  go_loopw [4] (fun i wr => ∃ k : Nat, k ≤ l.length ∧ i = .int .i64 k ∧ SMap wr w.heap.size (labMap (l.take k)) ∧ Below w.heap.size w wr) (fun i _ => l.length - (intOf i).toNat)
  case atStart => exact ⟨0, Nat.zero_le _, rfl, SMap.made w, (Below.refl _ _).alloc (Nat.le_refl _) _⟩
  case round =>
    obtain ⟨k, hk, rfl, M, B⟩ := hrel
    by_cases hkl : k < l.length
    · obtain ⟨b, off, hx, hc⟩ := (h.below B).get (by omega)
      obtain rfl : x = ⟨b, off, none⟩ := by simpa using hx
      have d0 := (hc k hkl).1
      have d1 := (hc k hkl).2
      clear hc hx
      obtain ⟨ob, hrun, M2⟩ := SMap.update (P := Tryd.prog) (w := wr.drew) (M.same rfl) Tryd.underlying31 Tryd.underlying9 (lkA l k) (.string (lvA l k))
      have B2 : Below w.heap.size w (setBlock wr.drew w.heap.size ob) := setBlock_below B.drew (Nat.le_refl _) ob
      rw [← labMap_snoc _ (lkA l k, lvA l k), ← lab_take l k hkl] at M2
      generalize setBlock wr.drew w.heap.size ob = W2 at hrun M2 B2
      go_wp2
      go_region
      all_goals go_wp2
      go_roundw
      case rel => exact ⟨k + 1, by omega, by go_num, M2, B2⟩
      case measure => simp [intOf]; omega
    · obtain rfl : k = l.length := by omega
      rw [List.take_length] at M
      go_wp2
      go_ret
      exact ⟨rfl, M, B⟩
end Go.Proofs.Qxb6626248aDoor
