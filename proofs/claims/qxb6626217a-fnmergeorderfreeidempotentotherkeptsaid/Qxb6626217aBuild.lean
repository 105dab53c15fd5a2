import Derived.Test.Qxb6626217aSmall
import Derived.Test.Qxb6626217aMsgs
namespace Go.Proofs.Qxb6626217a
open Go.ChangeShapes Go.WideShapes Go.ChangeAt Go.RowKit
set_option linter.unusedVariables false
set_option linter.unusedSimpArgs false

theorem bytes_any (a0 : Option Addr) (n0 c0 : Nat) (a1 : Option Addr) (n1 c1 : Nat) (a2 : Option Addr) (n2 c2 : Nat) (a3 : Option Addr) (n3 c3 : Nat) (w : World) (h0 : n0 ≤ 9223372036854775807) (h1 : n1 ≤ 9223372036854775807) (h2 : n2 ≤ 9223372036854775807) (h3 : n3 ≤ 9223372036854775807) :
    Calls Try.prog 5 #[.slice a0 n0 c0, .slice a1 n1 c1, .slice a2 n2 c2, .slice a3 n3 c3] w fun e w' => (∃ b, e = .returned (.bool b) ∧ (b = true → n0 ≤ 1048576 ∧ n1 ≤ 1048576 ∧ n2 ≤ 1048576 ∧ n3 ≤ 1048576)) ∧ w' = w := by
  go_enter Try.func5, Try.ntmps5
  go_wp2
  all_goals go_ret
  all_goals refine ⟨⟨_, rfl, ?_⟩, rfl⟩
  all_goals first | (intro h; cases h; done) | (intro _; omega)

theorem newDeps_any (a : Option Addr) (n c : Nat) (w : World) :
    Calls Try.prog 7 #[.slice a n c] w fun e w' => e = .returned (.agg #[.slice a n c]) ∧ Below w.heap.size w w' := by
  go_enter Try.func7, Try.ntmps7
  go_wp2
  exact bodyPost_ret (v := .agg #[.slice a n c]) (by simp [results, Try.results7, go_sem]) rfl ⟨rfl, (Below.refl _ _).alloc (Nat.le_refl _) _⟩

theorem ids_any (a : Option Addr) (n c : Nat) (w : World) :
    Calls Try.prog 10 #[.agg #[.slice a n c]] w fun e w' => e = .returned (.slice a n c) ∧ Below w.heap.size w w' := by
  go_enter Try.func10, Try.ntmps10
  go_wp2
  go_ret
  exact ⟨rfl, (Below.refl _ _).alloc (Nat.le_refl _) _⟩

theorem info34 : (Try.prog.info? 34).map (fun i => (i.zero, i.size, i.bytes)) = some (some (.agg #[.int .i64 0, .int .i64 0]), 2, 16) := by kernel_rfl

theorem made_flat (n : Nat) : (madeCells (Value.agg #[.int .i64 0, .int .i64 0]).cells (n * 2)).toList = flat (List.replicate n (0, 0)) := by
  apply List.ext_getElem?
  intro j
  by_cases hj : j < n * 2
  · obtain ⟨i, hi | hi⟩ : ∃ i, j = i * 2 ∨ j = i * 2 + 1 := ⟨j / 2, by omega⟩
    · subst hi
      rw [flat_get0 _ _ (by simp; omega)]
      have e : sA (List.replicate n (0, 0)) i = 0 := by simp [sA, List.getElem?_replicate, show i < n from by omega]
      rw [e]
      simp [madeCells, Value.cells, show i * 2 < n * 2 from hj]
    · subst hi
      rw [flat_get1 _ _ (by simp; omega)]
      have e : tA (List.replicate n (0, 0)) i = 0 := by simp [tA, List.getElem?_replicate, show i < n from by omega]
      rw [e]
      simp [madeCells, Value.cells, show i * 2 + 1 < n * 2 from hj, show (i * 2 + 1) % 2 = 1 from by omega]
  · rw [List.getElem?_eq_none (by simp [madeCells]; omega), List.getElem?_eq_none (by rw [flat_length]; simp; omega)]

theorem Ints.below {w w' : World} {a : Option Addr} {l : List Int} (h : Ints w a l) (hb : Below w.heap.size w w') : Ints w' a l := by
  rcases h with h | ⟨b, off, rfl, hc⟩
  · exact .inl h
  · exact .inr ⟨b, off, rfl, fun i hi => (hb.cell (World.block_lt_of_cell? w _ (hc i hi))).trans (hc i hi)⟩

/-- the messages out of the senders and the times -/
def msgs (l t : List Int) : Ms := l.zip t
theorem msgs_length (l t : List Int) (h : t.length = l.length) : (msgs l t).length = l.length := by simp [msgs, h]
theorem sA_msgs (l t : List Int) (h : t.length = l.length) (i : Nat) (hi : i < l.length) : sA (msgs l t) i = at0 l i := by
  simp [sA, at0, msgs, List.getElem?_zip_eq_some, List.getElem?_eq_getElem hi, List.getElem?_eq_getElem (show i < t.length by omega), List.zip, List.getElem?_zipWith]
theorem tA_msgs (l t : List Int) (h : t.length = l.length) (i : Nat) (hi : i < l.length) : tA (msgs l t) i = at0 t i := by
  simp [tA, at0, msgs, List.getElem?_zip_eq_some, List.getElem?_eq_getElem hi, List.getElem?_eq_getElem (show i < t.length by omega), List.zip, List.getElem?_zipWith]

theorem build_any (a0 : Option Addr) (c0 : Nat) (l : List Int) (a1 : Option Addr) (c1 : Nat) (t : List Int) (w : World) (hl : l.length ≤ 1048576) (hlt : t.length = l.length) (h : Ints w a0 l) (ht : Ints w a1 t) :
    Calls Try.prog 8 #[.slice a0 l.length c0, .slice a1 l.length c1] w fun e w' => e = .returned (.slice (some ⟨w.heap.size, 0, none⟩) l.length l.length) ∧ Row w' w.heap.size w.heap.size l.length (msgs l t) ∧ Below w.heap.size w w' := by
  obtain ⟨i0, hi, hz0, hz1, hz2⟩ := info_parts info34
  go_enter Try.func8, Try.ntmps8
  go_wp2_with (at_make; refine wpList_make_full _ rfl _ _ 26 rfl w.heap.size 34 i0 (.agg #[.int .i64 0, .int .i64 0]) 2 Try.underlying26 hi hz0 hz1 .i64 .i64 _ _ l.length rfl rfl rfl rfl (by rw [hz2]; omega) (by unfold maxLen; omega) (Nat.le_refl _) ?_; intro w1 hown hgrow)
  go_loopw [6] (fun i wr => ∃ k : Nat, k ≤ l.length ∧ i = .int .i64 k ∧ ∃ m : Ms, m.length = l.length ∧ Row wr w.heap.size w.heap.size l.length m ∧ Hid (∀ j, j < k → sA m j = at0 l j ∧ tA m j = at0 t j) ∧ Below w.heap.size w wr) (fun i _ => l.length - (intOf i).toNat)
  case atStart =>
    refine ⟨0, Nat.zero_le _, rfl, List.replicate l.length (0, 0), by simp, ?_, fun j hj => by omega, (Below.refl _ _).grown hgrow (Nat.le_refl _) (fun k hk => by cases hk)⟩
    rw [made_flat] at hown
    unfold Row
    rw [List.length_replicate]
    exact hown
  case round =>
    obtain ⟨k, hk, rfl, m, hm, hrow, A, hbel⟩ := hrel
    by_cases hkl : k < l.length
    · obtain ⟨b0, o0, rfl, hc0⟩ := h.get (by omega)
      obtain ⟨b1, o1, rfl, hc1⟩ := ht.get (by omega)
      have h0 : wr.cell? ⟨b0, o0 + k, none⟩ = some (.int .i64 (at0 l k)) := (hbel.cell (World.block_lt_of_cell? w _ (hc0 k hkl))).trans (hc0 k hkl)
      have h1 : wr.cell? ⟨b1, o1 + k, none⟩ = some (.int .i64 (at0 t k)) := (hbel.cell (World.block_lt_of_cell? w _ (hc1 k (by omega)))).trans (hc1 k (by omega))
      have c0 := hrow.cell0 (i := k) (by omega)
      have c1 := hrow.cell1 (i := k) (by omega)
      have f0 := hrow.free (k * 2)
      have f1 := hrow.free (k * 2 + 1)
      clear hc0 hc1 hown
      go_wp2
      go_region
      all_goals go_wp2
      go_roundw
      case rel =>
        refine ⟨k + 1, by omega, by go_num, m.set k (at0 l k, at0 t k), by simpa using hm, hrow.store k _ _, ?_, ((hbel.setCell (by exact Nat.le_refl _) _).setCell (by exact Nat.le_refl _) _).drew⟩
        intro j hj
        rw [sA_set _ _ _ _ (by omega), tA_set _ _ _ _ (by omega)]
        by_cases hjk : j = k
        · subst hjk; simp
        · simpa [hjk] using A.out j (by omega)
      case measure => simp [intOf]; omega
    · obtain rfl : k = l.length := by omega
      go_wp2
      go_ret
      refine ⟨rfl, ?_, hbel⟩
      have e : m = msgs l t := ms_ext (by rw [hm, msgs_length _ _ hlt]) (fun i hi => by rw [sA_msgs _ _ hlt _ (by omega)]; exact (A.out i (by omega)).1) (fun i hi => by rw [tA_msgs _ _ hlt _ (by omega)]; exact (A.out i (by omega)).2)
      rw [← e]
      exact hrow
end Go.Proofs.Qxb6626217a
