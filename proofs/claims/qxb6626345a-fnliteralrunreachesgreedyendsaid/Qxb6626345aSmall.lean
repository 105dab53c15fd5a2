import Derived.Test.Qxb6626345aLit
namespace Go.Proofs.Qxb6626345a
open Go.ChangeShapes Go.WideShapes Go.ChangeAt Go.RowKit
set_option linter.unusedVariables false
set_option linter.unusedSimpArgs false

theorem info5 : (Try.prog.info? 5).map (fun i => (i.zero, i.size, i.bytes)) = some (some (.int .u8 0), 1, 1) := by kernel_rfl

theorem at0_set (l : List Int) (i : Nat) (x : Int) (p : Nat) (h : i < l.length) : at0 (l.set i x) p = if p = i then x else at0 l p := by
  unfold at0
  rw [List.getElem?_set]
  by_cases hp : p = i
  · subst hp; simp [h]
  · rw [if_neg (by omega), if_neg hp]
theorem ints_ext {a b : List Int} (hl : a.length = b.length) (h : ∀ i, i < a.length → at0 a i = at0 b i) : a = b := by
  apply List.ext_getElem hl
  intro i h1 h2
  have e := h i h1
  simpa [at0, List.getElem?_eq_getElem h1, List.getElem?_eq_getElem h2] using e

/-- a row of bytes that the call has made -/
def BRow (w : World) (base g : Nat) (l : List Int) : Prop := w.ownsRow base 5 1 (.slice (some ⟨g, 0, none⟩) l.length l.length) l.length (l.map (Value.int .u8))
theorem BRow.cell {w : World} {base g : Nat} {l : List Int} (h : BRow w base g l) {i : Nat} (hi : i < l.length) : w.cell? ⟨g, i, none⟩ = some (.int .u8 (at0 l i)) := by
  rw [World.ownsRow.cellAt h i (by omega), List.getElem?_map, List.getElem?_eq_getElem hi]
  simp [at0, List.getElem?_eq_getElem hi]
theorem BRow.free {w : World} {base g : Nat} {l : List Int} (h : BRow w base g l) (j : Nat) : w.frozen? ⟨g, j, none⟩ = false := World.ownsRow.frozenAt h j
theorem BRow.store {w : World} {base g : Nat} {l : List Int} (h : BRow w base g l) (i : Nat) (x : Int) : BRow (w.setCell ⟨g, i, none⟩ (.int .u8 x)) base g (l.set i x) := by
  have := (World.ownsRow.stored h i (.int .u8 x)).1
  unfold BRow
  rw [List.length_set, List.map_set]
  exact this
theorem BRow.byts {w : World} {base g : Nat} {l : List Int} (h : BRow w base g l) : Byts w (some ⟨g, 0, none⟩) l :=
  .inr ⟨g, 0, rfl, fun i hi => by rw [Nat.zero_add]; exact h.cell hi⟩
theorem BRow.block {w : World} {base g : Nat} {l : List Int} (h : BRow w base g l) : base ≤ g ∧ g < w.heap.size := World.ownsRow.lt h g rfl
theorem BRow.same {w w' : World} {base g : Nat} {l : List Int} (h : BRow w base g l) (hb : w'.heap[g]? = w.heap[g]?) : BRow w' base g l := by
  refine ⟨h.1, ?_⟩
  rcases h.2 with ⟨h', _⟩ | ⟨g', cap', cur, h', rest⟩
  · simp at h'
  · simp only [Value.slice.injEq, Option.some.injEq, Addr.mk.injEq, and_true, true_and] at h'
    obtain ⟨rfl, rfl⟩ := h'
    exact .inr ⟨g, l.length, cur, rfl, by rw [hb]; exact rest⟩
theorem BRow.below {w w' : World} {base g : Nat} {l : List Int} (h : BRow w base g l) (hb : Below w.heap.size w w') : BRow w' base g l := h.same (hb.block g h.block.2)
theorem BRow.made {w : World} {base g n : Nat} (h : w.ownsRow base 5 1 (.slice (some ⟨g, 0, none⟩) n n) n (madeCells (Value.int .u8 0).cells (n * 1)).toList) : BRow w base g (List.replicate n 0) := by
  unfold BRow
  rw [List.length_replicate, List.map_replicate]
  have e : (madeCells (Value.int .u8 0).cells (n * 1)).toList = List.replicate n (.int .u8 0) := by
    rw [Nat.mul_one]; exact toList_madeCells_one _ _
  rw [e] at h
  exact h

/-- what a clone gives -/
def Cloned (w : World) (base : Nat) (r : Option Addr) (l : List Int) : Prop := (r = none ∧ l = []) ∨ ∃ g, r = some ⟨g, 0, none⟩ ∧ base ≤ g ∧ BRow w base g l
theorem Cloned.byts {w : World} {base : Nat} {r : Option Addr} {l : List Int} (h : Cloned w base r l) : Byts w r l := by
  rcases h with ⟨_, rfl⟩ | ⟨g, rfl, _, hr⟩
  · exact .inl rfl
  · exact hr.byts
theorem Cloned.below {w w' : World} {base : Nat} {r : Option Addr} {l : List Int} (h : Cloned w base r l) (hb : Below w.heap.size w w') : Cloned w' base r l := by
  rcases h with h | ⟨g, rfl, hg, hr⟩
  · exact .inl h
  · exact .inr ⟨g, rfl, hg, hr.below hb⟩
theorem Cloned.spot {w : World} {base : Nat} {r : Option Addr} {l : List Int} (h : Cloned w base r l) : ∃ g, (l.length = 0 ∨ r = some ⟨g, 0, none⟩) ∧ ∀ i, i < l.length → w.cell? ⟨g, i, none⟩ = some (.int .u8 (at0 l i)) := by
  rcases h with ⟨_, rfl⟩ | ⟨g, rfl, hg, hr⟩
  · exact ⟨0, .inl rfl, fun i hi => by simp at hi⟩
  · exact ⟨g, .inr rfl, fun i hi => hr.cell hi⟩

theorem nil_no (x : Addr) (n c : Nat) (W : World) : (binOp .eql 22 (.slice (some x) n c) (.slice none 0 0)).run Try.prog W = .ok (.bool false) W := rfl
theorem nil_yes (W : World) : (binOp .eql 22 (.slice none 0 0) (.slice none 0 0)).run Try.prog W = .ok (.bool true) W := rfl
theorem clone_nil (w : World) (c : Nat) : Calls Try.prog 6 #[.slice none 0 0] w fun e w' => e = .returned (.slice none 0 0) ∧ w' = w := by
  have ny := nil_yes
  go_enter Try.func6, Try.ntmps6
  go_wp2
  go_ret
  exact ⟨rfl, rfl⟩

theorem clone_some (w : World) (x : Addr) (c : Nat) (l : List Int) (h : Byts w (some x) l) (hl : l.length ≤ 1048576) :
    Calls Try.prog 6 #[.slice (some x) l.length c] w fun e w' => e = .returned (.slice (some ⟨w.heap.size, 0, none⟩) l.length l.length) ∧ BRow w' w.heap.size w.heap.size l ∧ Below w.heap.size w w' := by
  obtain ⟨i0, hi, hz⟩ := Option.map_eq_some_iff.1 info5
  simp only [Prod.mk.injEq] at hz
  obtain ⟨hz0, hz1, hz2⟩ := hz
  have nn := nil_no x l.length c
  go_enter Try.func6, Try.ntmps6
  go_wp2_with (at_make; refine wpList_make_full _ rfl _ _ 22 rfl w.heap.size 5 i0 (.int .u8 0) 1 Try.underlying22 hi hz0 hz1 .i64 .i64 _ _ l.length rfl rfl rfl rfl (by rw [hz2]; omega) (by unfold maxLen; omega) (by simp) ?_; intro w10 hown hgrow)
  have B10 : Below w.heap.size w w10 := (Below.refl _ _).grown hgrow (Nat.le_refl _) (fun _ h => by cases h)
  have I10 := BRow.made hown
  clear hown hgrow
  go_loopw [4] (fun i wr => ∃ k : Nat, k ≤ l.length ∧ i = .int .i64 (k : Int) ∧ ∃ r : List Int, Hid (r.length = l.length) ∧ BRow wr w.heap.size w.heap.size r ∧ Hid (∀ j, j < k → at0 r j = at0 l j) ∧ Below w.heap.size w wr) (fun i _ => l.length - (intOf i).toNat)
  case atStart => exact ⟨0, Nat.zero_le _, rfl, _, by simp [Hid], I10, fun j hj => by omega, B10⟩
  case round =>
    clear B10 I10
    obtain ⟨k, hk, rfl, r, el, R, A, B⟩ := hrel
    by_cases hkl : k < l.length
    · obtain ⟨b, off, hx, hc⟩ := (h.below B).get (by omega)
      obtain rfl := Option.some.inj hx
      have q0 := hc k hkl
      clear hc
      have hkr : k < r.length := by have := unhide el; omega
      have q1 := R.cell hkr
      have q2 := R.free k
      go_wp2
      go_roundw
      case rel =>
        refine ⟨k + 1, by omega, by go_num, r.set k (at0 l k), ?_, R.store k _, ?_, B.setCell (by simp) _⟩
        · have := unhide el; simp [Hid]; omega
        · intro j hj
          rw [at0_set _ _ _ _ hkr]
          by_cases hjk : j = k
          · subst hjk; simp
          · rw [if_neg hjk]; exact A.out j (by omega)
      case measure => simp [intOf]; omega
    · obtain rfl : k = l.length := by omega
      obtain rfl : r = l := ints_ext (unhide el) (fun i hi => by have := unhide el; exact A.out i (by omega))
      go_wp2
      go_ret
      exact ⟨rfl, R, B⟩

theorem clone_any (w : World) (a : Option Addr) (c : Nat) (l : List Int) (h : Byts w a l) (ha : a = none → c = 0 ∧ l = []) (hl : l.length ≤ 1048576) :
    Calls Try.prog 6 #[.slice a l.length c] w fun e w' => (∃ r, e = .returned (.slice r l.length l.length) ∧ Cloned w' w.heap.size r l) ∧ Below w.heap.size w w' := by
  cases a with
  | none =>
    obtain ⟨rfl, rfl⟩ := ha rfl
    refine (clone_nil w 0).mono ?_
    rintro e w' ⟨rfl, rfl⟩
    exact ⟨⟨none, rfl, .inl ⟨rfl, rfl⟩⟩, Below.refl _ _⟩
  | some x =>
    refine (clone_some w x c l h hl).mono ?_
    rintro e w' ⟨rfl, R, B⟩
    exact ⟨⟨_, rfl, .inr ⟨_, rfl, Nat.le_refl _, R⟩⟩, B⟩

theorem ret_bool {a b : Bool} (h : a = b) : Ending.returned (.bool a) = .returned (.bool b) := by rw [h]

theorem bytes3_any (a b : Option Addr) (n c n1 c1 : Nat) (p : Int) (w : World) (hn : n ≤ 9223372036854775807) (hn1 : n1 ≤ 9223372036854775807) :
    Calls Try.prog 5 #[.slice a n c, .slice b n1 c1, .int .i64 p] w fun e w' => (∃ r, e = .returned (.bool r) ∧ (r = true → n + n1 ≤ 1048576)) ∧ w' = w := by
  by_cases h1 : n ≤ 1048576
  · by_cases h2 : n1 ≤ 1048576
    · by_cases h3 : n + n1 ≤ 1048576
      · go_enter Try.func5, Try.ntmps5
        go_wp2
        go_ret
        exact ⟨⟨true, rfl, fun _ => h3⟩, rfl⟩
      · go_enter Try.func5, Try.ntmps5
        go_wp2
        go_ret
        exact ⟨⟨false, rfl, fun h => by cases h⟩, rfl⟩
    · go_enter Try.func5, Try.ntmps5
      go_wp2
      go_ret
      exact ⟨⟨false, rfl, fun h => by cases h⟩, rfl⟩
  · go_enter Try.func5, Try.ntmps5
    go_wp2
    go_ret
    exact ⟨⟨false, rfl, fun h => by cases h⟩, rfl⟩

theorem bytes4_any (a : Option Addr) (n c : Nat) (p : Int) (w : World) (hn : n ≤ 9223372036854775807) :
    Calls Try.prog 9 #[.slice a n c, .int .i64 p] w fun e w' => (∃ r, e = .returned (.bool r) ∧ (r = true → n ≤ 1048576)) ∧ w' = w := by
  by_cases h1 : n ≤ 1048576
  · go_enter Try.func9, Try.ntmps9
    go_wp2
    go_ret
    exact ⟨⟨true, rfl, fun _ => h1⟩, rfl⟩
  · go_enter Try.func9, Try.ntmps9
    go_wp2
    go_ret
    exact ⟨⟨false, rfl, fun h => by cases h⟩, rfl⟩

def isWd (s : ByteArray) : Prop := s = ⟨#[116, 114, 117, 101]⟩ ∨ s = ⟨#[102, 97, 108, 115, 101]⟩ ∨ s = ⟨#[110, 117, 108, 108]⟩
theorem isWord_any (s : ByteArray) (w : World) (h : isWd s) : Calls Try.prog 10 #[.string s] w fun e w' => e = .returned (.bool true) ∧ w' = w := by
  rcases h with rfl | rfl | rfl
  all_goals
    go_enter Try.func10, Try.ntmps10
    go_wp2
    go_ret
    exact ⟨rfl, rfl⟩
theorem wd_isWd {l : List Int} {p : Nat} (h : wd l p ≠ ⟨#[]⟩) : isWd (wd l p) := by
  unfold wd at *
  split
  · exact .inl rfl
  · split
    · exact .inr (.inl rfl)
    · split
      · exact .inr (.inr rfl)
      · simp_all
end Go.Proofs.Qxb6626345a
