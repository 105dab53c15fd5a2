import Derived.Test.Qxb6626309aRows
import Derived.WalkKit
import Derived.ProofKit
import Derived.OpenShut
import Derived.Below
import Derived.WalkSpells
import Derived.RegionTactic
import Derived.Deep.QuietTactic
import Derived.BigQuiet
import Derived.Deep.LoopGhost
import Derived.Laws.CopyOwn
import Derived.Lib.SliceRun
import Derived.Lib.AppendZerosOnto
import Derived.Lib.Overlaps
import Derived.Shelf.Spec.SlicesInsert
namespace Go.Proofs.Qxb6626309a
open Go.ChangeShapes Go.WideShapes Go.ChangeAt Go.RowKit
set_option linter.unusedVariables false
set_option linter.unusedSimpArgs false

theorem run_copy_wide {P : Program} (w : World) (dT sT ty elem : TypeId) (g o dLen dCap : Nat) (a : Addr) (sLen sCap : Nat) (cur : List Value) (t : TypeId) (cs : List Value) (k : Nat)
    (hu : P.underlying dT = some (.slice elem)) (hs : (P.info? elem).map (·.size) = some k)
    (hg : w.heap[g]? = some (.cells cur.toArray t (0, 0))) (hn : cs.length = Nat.min sLen dLen * k)
    (hsrc : ∀ j v, cs[j]? = some v → w.cell? (a.add j) = some v) (hfit : o + cs.length ≤ cur.length) (h1 : ∀ v ∈ cs, v.oneCell' = true) :
    (Builtin.copy_ #[dT, sT] ty #[.slice (some ⟨g, o, none⟩) dLen dCap, .slice (some a) sLen sCap]).run P w =
      .ok (goInt (Nat.min sLen dLen)) (w.setRow g (splice cur o cs).toArray) := by
  have hl := run_loadCells_list (P := P) w a cs hsrc
  have hst := run_storeCells_at P g o t cs 0 cur.toArray w hg (by simpa using hfit) h1
  have e : splice cur o cs = cur.take o ++ cs ++ cur.drop (o + cs.length) := by simp [splice]
  cases hq : P.info? elem with
  | none => simp [hq] at hs
  | some i =>
    have hi : i.size = k := by simpa [hq] using hs
    rw [e]
    simp [Builtin.copy_, run_underlying hu, Builtin.lenOf, Builtin.firstCells, sizeOf, typeInfo, hq, hi, ← hn, hl, hst]

theorem run_clear_wide {P : Program} (w : World) (t e ty : TypeId) (z : Value) (ht : P.underlying t = some (.slice e)) (hv : ∀ w, (zeroValue e).run P w = .ok z w) (g o n c : Nat) (hn : 0 < n) (cur : List Value) (te : TypeId)
    (hg : w.heap[g]? = some (.cells cur.toArray te (0, 0))) (zs : List Value) (hz : (Builtin.zeroCells z.cells n).toList = zs) (hfit : o + zs.length ≤ cur.length) (h1 : ∀ v ∈ zs, v.oneCell' = true) :
    (Builtin.clear_ #[t] ty #[.slice (some ⟨g, o, none⟩) n c]).run P w = .ok (.tuple #[]) (w.setRow g (splice cur o zs).toArray) := by
  have hst := run_storeCells_at P g o te zs 0 cur.toArray w hg (by simpa using hfit) h1
  have e' : splice cur o zs = cur.take o ++ zs ++ cur.drop (o + zs.length) := by simp [splice]
  obtain ⟨m, rfl⟩ : ∃ m, n = m + 1 := ⟨n - 1, by omega⟩
  rw [e']
  simp [Builtin.clear_, run_underlying ht, hv, hz, hst]

/-- all blocks but S are as they were -/
structure Kept1 (S : Nat) (w w' : World) : Prop where
  os : w'.os = w.os
  tape : w'.tape = w.tape
  output : w'.output = w.output
  size : w.heap.size ≤ w'.heap.size
  block : ∀ k, k ≠ S → k < w.heap.size → w'.heap[k]? = w.heap[k]?
theorem Kept1.refl (S : Nat) (w : World) : Kept1 S w w := ⟨rfl, rfl, rfl, Nat.le_refl _, fun _ _ _ => rfl⟩
theorem Kept1.trans {S : Nat} {w w' w'' : World} (h : Kept1 S w w') (k : Kept1 S w' w'') : Kept1 S w w'' :=
  ⟨k.os.trans h.os, k.tape.trans h.tape, k.output.trans h.output, Nat.le_trans h.size k.size, fun j hj hl => (k.block j hj (Nat.lt_of_lt_of_le hl h.size)).trans (h.block j hj hl)⟩
theorem Kept1.of_below {S : Nat} {w w' : World} (h : Below w.heap.size w w') : Kept1 S w w' := ⟨h.os, h.tape, h.output, h.size, fun k _ hk => h.block k hk⟩
theorem Kept1.below {S B : Nat} {w w' : World} (h : Kept1 S w w') (hB : B ≤ S) (hs : B ≤ w.heap.size) : Below B w w' :=
  ⟨h.os, h.tape, h.output, h.size, fun k hk => h.block k (by omega) (by omega)⟩
theorem below_drewN {B : Nat} {a w : World} (h : Below B a w) (n : Nat) : Below B a (w.drewN n) := by
  have e : (w.drewN n).heap = w.heap := by simp [World.drewN]
  exact ⟨h.os, h.tape, h.output, by rw [e]; exact h.size, fun k hk => by rw [e]; exact h.block k hk⟩
theorem Kept1.drew {S : Nat} (w : World) : Kept1 S w w.drew := .of_below (Below.refl _ _).drew
theorem Kept1.drewN {S : Nat} (w : World) (n : Nat) : Kept1 S w (w.drewN n) := .of_below (below_drewN (Below.refl _ _) n)
theorem Kept1.setRow {S : Nat} (w : World) (cs : Array Value) : Kept1 S w (w.setRow S cs) :=
  ⟨rfl, rfl, rfl, by simp [World.setRow], fun k hk _ => setRow_other w S k cs hk⟩
theorem Kept1.alloc {S : Nat} (w : World) (o : Obj) : Kept1 S w (w.alloc o) := .of_below ((Below.refl _ _).alloc (Nat.le_refl _) o)
theorem setRow_at {w : World} {g : Nat} {cur : List Value} {t : TypeId} (h : w.heap[g]? = some (.cells cur.toArray t (0, 0))) (cs : List Value) : (w.setRow g cs.toArray).heap[g]? = some (.cells cs.toArray t (0, 0)) :=
  setRow_heap w g _ _ t _ h
end Go.Proofs.Qxb6626309a
