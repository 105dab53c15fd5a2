import Derived.Test.Qxb6626248aDoorRows
import Derived.Test.Qxb6626248aDoorMapWp
import Derived.Test.Qxb6626248aDoorPI
import Derived.WalkKit
import Derived.ProofKit
import Derived.OpenShut
import Derived.Below
import Derived.WalkSpells
import Derived.RegionTactic
import Derived.Deep.QuietTactic
import Derived.BigQuiet
import Derived.Deep.LoopGhost
namespace Go.Proofs.Qxb6626248aDoor
open Go.ChangeShapes Go.WideShapes Go.ChangeAt Go.RowKit
set_option linter.unusedVariables false
set_option linter.unusedSimpArgs false

theorem hide {p : Prop} (h : p) : Hid p := h
theorem unhide {p : Prop} (h : Hid p) : p := h
theorem below_drewN {B : Nat} {a w : World} (h : Below B a w) (n : Nat) : Below B a (w.drewN n) := by
  have e : (w.drewN n).heap = w.heap := by simp [World.drewN]
  exact ⟨h.os, h.tape, h.output, by rw [e]; exact h.size, fun k hk => by rw [e]; exact h.block k hk⟩
theorem below_step {B : Nat} {a w w' : World} (h : Below B a w) (hB : B ≤ w.heap.size) (k : Below w.heap.size w w') : Below B a w' := h.trans (k.mono hB)
theorem drewN_drewN (w : World) (a b : Nat) : (w.drewN a).drewN b = w.drewN (a + b) := by simp

/-! slices of strings -/
def strAt (l : List ByteArray) (i : Nat) : ByteArray := l[i]?.getD ByteArray.empty
def Strs (w : World) (a : Option Addr) (l : List ByteArray) : Prop :=
  l = [] ∨ ∃ b off, a = some ⟨b, off, none⟩ ∧ ∀ i, i < l.length → w.cell? ⟨b, off + i, none⟩ = some (.string (strAt l i))
theorem Strs.get {w : World} {a : Option Addr} {l : List ByteArray} (h : Strs w a l) (hl : 0 < l.length) : ∃ b off, a = some ⟨b, off, none⟩ ∧ ∀ i, i < l.length → w.cell? ⟨b, off + i, none⟩ = some (.string (strAt l i)) := by
  rcases h with rfl | h
  · simp at hl
  · exact h
theorem Strs.below {w w' : World} {a : Option Addr} {l : List ByteArray} (h : Strs w a l) (hb : Below w.heap.size w w') : Strs w' a l := by
  rcases h with h | ⟨b, off, rfl, hc⟩
  · exact .inl h
  · exact .inr ⟨b, off, rfl, fun i hi => (hb.cell (World.block_lt_of_cell? w _ (hc i hi))).trans (hc i hi)⟩

/-! labels -/
abbrev Labels := List (ByteArray × ByteArray)
def lkA (l : Labels) (i : Nat) : ByteArray := (l[i]?.getD (ByteArray.empty, ByteArray.empty)).1
def lvA (l : Labels) (i : Nat) : ByteArray := (l[i]?.getD (ByteArray.empty, ByteArray.empty)).2
def Labs (w : World) (a : Option Addr) (l : Labels) : Prop :=
  l = [] ∨ ∃ b off, a = some ⟨b, off, none⟩ ∧ ∀ i, i < l.length → w.cell? ⟨b, off + i * 2, none⟩ = some (.string (lkA l i)) ∧ w.cell? ⟨b, off + i * 2 + 1, none⟩ = some (.string (lvA l i))
theorem Labs.get {w : World} {a : Option Addr} {l : Labels} (h : Labs w a l) (hl : 0 < l.length) : ∃ b off, a = some ⟨b, off, none⟩ ∧ ∀ i, i < l.length → w.cell? ⟨b, off + i * 2, none⟩ = some (.string (lkA l i)) ∧ w.cell? ⟨b, off + i * 2 + 1, none⟩ = some (.string (lvA l i)) := by
  rcases h with rfl | h
  · simp at hl
  · exact h
theorem cell_below {w w' : World} {a : Addr} {v : Value} (hb : Below w.heap.size w w') (h : w.cell? a = some v) : w'.cell? a = some v := (hb.cell (World.block_lt_of_cell? w _ h)).trans h
theorem Labs.below {w w' : World} {a : Option Addr} {l : Labels} (h : Labs w a l) (hb : Below w.heap.size w w') : Labs w' a l := by
  rcases h with h | ⟨b, off, rfl, hc⟩
  · exact .inl h
  · exact .inr ⟨b, off, rfl, fun i hi => ⟨cell_below hb (hc i hi).1, cell_below hb (hc i hi).2⟩⟩

/-! requirements -/
structure Req where
  key : ByteArray
  pres : Bool
  abst : Bool
  aset : Bool
  alA : Option Addr
  alC : Nat
  al : List ByteArray
  exA : Option Addr
  exC : Nat
  ex : List ByteArray
  hasLo : Bool
  lo : Int
  hasUp : Bool
  up : Int
def req0 : Req := ⟨ByteArray.empty, false, false, false, none, 0, [], none, 0, [], false, 0, false, 0⟩
def rqA (l : List Req) (i : Nat) : Req := l[i]?.getD req0

structure ReqAt (w : World) (b o : Nat) (q : Req) : Prop where
  c0 : w.cell? ⟨b, o, none⟩ = some (.string q.key)
  c1 : w.cell? ⟨b, o + 1, none⟩ = some (.bool q.pres)
  c2 : w.cell? ⟨b, o + 2, none⟩ = some (.bool q.abst)
  c3 : w.cell? ⟨b, o + 3, none⟩ = some (.bool q.aset)
  c4 : w.cell? ⟨b, o + 4, none⟩ = some (.slice q.alA q.al.length q.alC)
  c5 : w.cell? ⟨b, o + 5, none⟩ = some (.slice q.exA q.ex.length q.exC)
  c6 : w.cell? ⟨b, o + 6, none⟩ = some (.bool q.hasLo)
  c7 : w.cell? ⟨b, o + 7, none⟩ = some (.int .i64 q.lo)
  c8 : w.cell? ⟨b, o + 8, none⟩ = some (.bool q.hasUp)
  c9 : w.cell? ⟨b, o + 9, none⟩ = some (.int .i64 q.up)
  sal : Strs w q.alA q.al
  sex : Strs w q.exA q.ex
  lal : q.al.length ≤ 9223372036854775807
  lex : q.ex.length ≤ 9223372036854775807
theorem ReqAt.below {w w' : World} {b o : Nat} {q : Req} (h : ReqAt w b o q) (hb : Below w.heap.size w w') : ReqAt w' b o q :=
  ⟨cell_below hb h.c0, cell_below hb h.c1, cell_below hb h.c2, cell_below hb h.c3, cell_below hb h.c4, cell_below hb h.c5, cell_below hb h.c6, cell_below hb h.c7, cell_below hb h.c8, cell_below hb h.c9, h.sal.below hb, h.sex.below hb, h.lal, h.lex⟩
def Reqs (w : World) (a : Option Addr) (l : List Req) : Prop :=
  l = [] ∨ ∃ b off, a = some ⟨b, off, none⟩ ∧ ∀ i, i < l.length → ReqAt w b (off + i * 10) (rqA l i)
theorem Reqs.get {w : World} {a : Option Addr} {l : List Req} (h : Reqs w a l) (hl : 0 < l.length) : ∃ b off, a = some ⟨b, off, none⟩ ∧ ∀ i, i < l.length → ReqAt w b (off + i * 10) (rqA l i) := by
  rcases h with rfl | h
  · simp at hl
  · exact h
theorem Reqs.below {w w' : World} {a : Option Addr} {l : List Req} (h : Reqs w a l) (hb : Below w.heap.size w w') : Reqs w' a l := by
  rcases h with h | ⟨b, off, rfl, hc⟩
  · exact .inl h
  · exact .inr ⟨b, off, rfl, fun i hi => (hc i hi).below hb⟩
end Go.Proofs.Qxb6626248aDoor
