import Derived.Test.Qxb6626345aSmall
namespace Go.Proofs.Qxb6626345a
open Go.ChangeShapes Go.WideShapes Go.ChangeAt Go.RowKit
set_option linter.unusedVariables false
set_option linter.unusedSimpArgs false

/-- the scanner's block -/
def Scan (w : World) (S : Nat) (a : Option Addr) (n c : Nat) (x : Int) : Prop := w.heap[S]? = some (.cells #[.slice a n c, .int .i64 x] 28 (0, 0))
theorem Scan.lt {w : World} {S : Nat} {a : Option Addr} {n c : Nat} {x : Int} (h : Scan w S a n c x) : S < w.heap.size := by
  rcases Nat.lt_or_ge S w.heap.size with h1 | h1
  · exact h1
  · have := Array.getElem?_eq_none h1
    rw [show w.heap[S]? = _ from h] at this
    cases this
theorem Scan.c0 {w : World} {S : Nat} {a : Option Addr} {n c : Nat} {x : Int} (h : Scan w S a n c x) : w.cell? ⟨S, 0, none⟩ = some (.slice a n c) := by
  simp [World.cell?, show w.heap[S]? = _ from h]
theorem Scan.c1 {w : World} {S : Nat} {a : Option Addr} {n c : Nat} {x : Int} (h : Scan w S a n c x) : w.cell? ⟨S, 1, none⟩ = some (.int .i64 x) := by
  simp [World.cell?, show w.heap[S]? = _ from h]
theorem Scan.fr {w : World} {S : Nat} {a : Option Addr} {n c : Nat} {x : Int} (h : Scan w S a n c x) : w.frozen? ⟨S, 1, none⟩ = false := by
  simp [World.frozen?, show w.heap[S]? = _ from h]
theorem Scan.set {w : World} {S : Nat} {a : Option Addr} {n c : Nat} {x : Int} (h : Scan w S a n c x) (y : Int) : Scan (w.setCell ⟨S, 1, none⟩ (.int .i64 y)) S a n c y := by
  have hlt := h.lt
  have h2 : w.heap[S]? = some (.cells #[.slice a n c, .int .i64 x] 28 (0, 0)) := h
  rw [Array.getElem?_eq_getElem hlt] at h2
  unfold Scan
  simp [World.setCell, hlt, Array.getElem_modify_self, Option.some.inj h2]
theorem Scan.below {w w' : World} {S : Nat} {a : Option Addr} {n c : Nat} {x : Int} (h : Scan w S a n c x) (hb : Below w.heap.size w w') : Scan w' S a n c x := (hb.block S h.lt).trans h

structure Kept1 (S : Nat) (w w' : World) : Prop where
  os : w'.os = w.os
  tape : w'.tape = w.tape
  output : w'.output = w.output
  size : w.heap.size ≤ w'.heap.size
  block : ∀ k, k ≠ S → k < w.heap.size → w'.heap[k]? = w.heap[k]?
theorem Kept1.below {S B : Nat} {w w' : World} (h : Kept1 S w w') (hB : B ≤ S) (hs : B ≤ w.heap.size) : Below B w w' :=
  ⟨h.os, h.tape, h.output, h.size, fun k hk => h.block k (by omega) (by omega)⟩
theorem Kept1.drewN {S : Nat} (w : World) (n : Nat) : Kept1 S w (w.drewN n) := by
  have h := below_drewN (Below.refl w.heap.size w) n
  exact ⟨h.os, h.tape, h.output, h.size, fun k _ hk => h.block k hk⟩
theorem Kept1.set {S : Nat} (w : World) (o : Nat) (v : Value) : Kept1 S w (w.setCell ⟨S, o, none⟩ v) := by
  have h := (Below.refl S w).setCell (p := ⟨S, o, none⟩) (Nat.le_refl _) v
  exact ⟨h.os, h.tape, h.output, h.size, fun k hk _ => Below.heap_setCell w ⟨S, o, none⟩ v k hk⟩
theorem Kept1.trans {S : Nat} {w w' w'' : World} (h : Kept1 S w w') (k : Kept1 S w' w'') : Kept1 S w w'' :=
  ⟨k.os.trans h.os, k.tape.trans h.tape, k.output.trans h.output, Nat.le_trans h.size k.size, fun j hj hl => (k.block j hj (Nat.lt_of_lt_of_le hl h.size)).trans (h.block j hj hl)⟩

def okOf (s : ByteArray) : Bool := s.toList != ([] : List UInt8)
theorem okOf_nil : okOf ⟨#[]⟩ = false := by unfold okOf; rw [ByteArray.toList_eq]; rfl
theorem okOf_yes {s : ByteArray} (h : s ≠ ⟨#[]⟩) : okOf s = true := by
  unfold okOf
  rw [bne, beqL h]; rfl
theorem okOf_false {s : ByteArray} (h : okOf s = false) : s = ⟨#[]⟩ := by
  by_cases h2 : s = ⟨#[]⟩
  · exact h2
  · rw [okOf_yes h2] at h; cases h

theorem lit_scan (w : World) (S base : Nat) (r : Option Addr) (c : Nat) (l : List Int) (p : Nat) (x y : Int) (hx : x = p) (hy : y = (p : Int) + ((wd l p).size : Int)) (hS : Scan w S r l.length c x) (hd : Cloned w base r l) (hl : l.length ≤ 1048576) (hcap : l.length ≤ c) (hp : p ≤ 3145728) (hB : IsB l) :
    Calls Try.prog 8 #[.pointer (some ⟨S, 0, none⟩)] w fun e w' => e = .returned (.tuple #[.string (wd l p), .bool (okOf (wd l p))]) ∧ Scan w' S r l.length c y ∧ Kept1 S w w' := by
  subst hx hy
  obtain ⟨g, hg, hc⟩ := hd.spot
  refine (lit_any w S g r c l p hS.c0 (hide hg) hS.c1 hS.fr (hide hc) hl hcap hp (hide hB)).mono ?_
  rintro e w' (⟨h, rfl, n, rfl⟩ | ⟨h, rfl, n, rfl⟩)
  · have h2 := unhide h
    rw [h2]
    refine ⟨by rw [okOf_nil], ?_, Kept1.drewN _ _⟩
    have := hS.below (below_drewN (Below.refl _ _) n)
    rw [show ((p : Int) + ((⟨#[]⟩ : ByteArray).size : Int)) = p from Int.add_zero _]
    exact this
  · refine ⟨by rw [okOf_yes (unhide h)], ?_, (Kept1.drewN _ _).trans (Kept1.set _ _ _)⟩
    have := (hS.below (below_drewN (Below.refl _ _) n)).set ((p + (wd l p).size : Nat) : Int)
    rw [show ((p : Int) + ((wd l p).size : Int)) = ((p + (wd l p).size : Nat) : Int) by omega]
    exact this

theorem at0_append_left {a b : List Int} {i : Nat} (h : i < a.length) : at0 (a ++ b) i = at0 a i := by simp [at0, List.getElem?_append_left h]
theorem at0_append_right {a b : List Int} {i : Nat} : at0 (a ++ b) (a.length + i) = at0 b i := by simp [at0, List.getElem?_append_right]
theorem stands_shift (a b : List Int) (p : Nat) (k : List Int) : stands (a ++ b) (a.length + p) k = stands b p k := by
  have e : ∀ j, at0 (a ++ b) (a.length + p + j) = at0 b (p + j) := fun j => by rw [Nat.add_assoc]; exact at0_append_right
  simp only [stands, e, List.length_append]
  congr 1
  have : (a.length + p + k.length ≤ a.length + b.length) = (p + k.length ≤ b.length) := by apply propext; omega
  rw [this]
theorem wd_shift (a b : List Int) (p : Nat) : wd (a ++ b) (a.length + p) = wd b p := by simp only [wd, stands_shift]
theorem isB_append {a b : List Int} (ha : IsB a) (hb : IsB b) : IsB (a ++ b) := by
  intro i hi
  by_cases h : i < a.length
  · rw [at0_append_left h]; exact ha i h
  · have := hb (i - a.length) (by simp at hi; omega)
    rw [← at0_append_right (a := a), show a.length + (i - a.length) = i by omega] at this
    exact this
end Go.Proofs.Qxb6626345a
