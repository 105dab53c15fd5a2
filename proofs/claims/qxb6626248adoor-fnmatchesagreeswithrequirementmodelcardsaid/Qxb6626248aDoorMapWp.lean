import Derived.Test.Qxb6626248aDoorMap
namespace Go.Proofs.Qxb6626248aDoor
open Go.RowKit Go.MapKept
set_option linter.unusedVariables false
set_option linter.unusedSimpArgs false
open Go.ChangeMaps (setBlock)

section
variable {P : Program} (w : World) {ops : Array Oper} {rest : List Oper} {o : Oper} {a : Act} {Q : Exit → Act → World → Prop}

theorem wpList_look_ok (hg : o.guard = none) (m x : Operand) (t : TypeId) (hop : o.op = Op.lookup t m x true) (k e : TypeId) (ht : P.underlying t = some (.map k e)) (hk : P.underlying k = some .string) (z : Value) (hz : (zeroValue e).run P w = .ok z w)
    (v : Value) (f : Ents) (hm : a.eval m = v) (h : MapV w v f) (s : ByteArray) (hx : a.eval x = .string s)
    (hK : wpList P ops Q rest (a.put o.dst (.tuple #[(look f s).getD z, .bool (look f s).isSome])) w) :
    wpList P ops Q (o :: rest) a w := by
  refine wpList_plain hg fun K hK' => ?_
  have hrun := h.lookup ht hk z hz s true
  unfold Oper.wp
  simp only [if_true] at hrun
  simp [execOp, hop, hm, hx, hrun, Result.andThen]
  exact hK' _ _ hK

theorem wpList_look (hg : o.guard = none) (m x : Operand) (t : TypeId) (hop : o.op = Op.lookup t m x false) (k e : TypeId) (ht : P.underlying t = some (.map k e)) (hk : P.underlying k = some .string) (z : Value) (hz : (zeroValue e).run P w = .ok z w)
    (v : Value) (f : Ents) (hm : a.eval m = v) (h : MapV w v f) (s : ByteArray) (hx : a.eval x = .string s)
    (hK : wpList P ops Q rest (a.put o.dst ((look f s).getD z)) w) :
    wpList P ops Q (o :: rest) a w := by
  refine wpList_plain hg fun K hK' => ?_
  have hrun := h.lookup ht hk z hz s false
  unfold Oper.wp
  simp only [Bool.false_eq_true, if_false] at hrun
  simp [execOp, hop, hm, hx, hrun, Result.andThen]
  exact hK' _ _ hK

theorem wpList_mapPut (hg : o.guard = none) (m x y : Operand) (t : TypeId) (hop : o.op = Op.mapUpdate t m x y) (k e : TypeId) (ht : P.underlying t = some (.map k e)) (hk : P.underlying k = some .string)
    (b : Nat) (f : Ents) (hm : a.eval m = .map (some b)) (h : SMap w b f) (s : ByteArray) (hx : a.eval x = .string s) (v : Value) (hy : a.eval y = v)
    (hK : ∀ w', SMap w' b (put f s v) → Keeps (fun k => k = b) w w' → wpList P ops Q rest (a.put o.dst undef) w') :
    wpList P ops Q (o :: rest) a w := by
  refine wpList_plain hg fun K hK' => ?_
  obtain ⟨ob, hrun, hm'⟩ := h.update ht hk s v
  unfold Oper.wp
  simp [execOp, hop, hm, hx, hy, hrun, Result.andThen]
  exact hK' _ _ (hK _ hm' (Keeps.set _ _ _))

theorem wpList_mapRange (hg : o.guard = none) (m : Operand) (t : TypeId) (hop : o.op = Op.range t m) (k e : TypeId) (ht : P.underlying t = some (.map k e)) (v : Value) (f : Ents) (hm : a.eval m = v) (h : MapV w v f)
    (hK : ∀ w', Iter w' w.heap.size v f f → Below w.heap.size w w' → wpList P ops Q rest (a.put o.dst (.pointer (some ⟨w.heap.size, 0, none⟩))) w') :
    wpList P ops Q (o :: rest) a w := by
  refine wpList_plain hg fun K hK' => ?_
  obtain ⟨ob, hrun, hi⟩ := h.range ht
  unfold Oper.wp
  simp [execOp, hop, hm, hrun, Result.andThen]
  exact hK' _ _ (hK _ hi ((Below.refl _ _).alloc (Nat.le_refl _) _))

theorem wpList_mapNext (hg : o.guard = none) (it : Operand) (hop : o.op = Op.next it false) (r : Nat) (v : Value) (f rem : Ents) (hit : a.eval it = .pointer (some ⟨r, 0, none⟩)) (h : Iter w r v f rem)
    (hDone : rem = [] → wpList P ops Q rest (a.put o.dst (.tuple #[.bool false])) w)
    (hMore : ∀ s u rem' w', rem.Perm ((s, u) :: rem') → Iter w' r v f rem' → Keeps (fun k => k = r) w w' → (Instr.entry (.pointer (some ⟨r, 0, none⟩))).run P w' = .ok (.tuple #[.string s, u]) w' → wpList P ops Q rest (a.put o.dst (.tuple #[.bool true, .string s, u])) w') :
    wpList P ops Q (o :: rest) a w := by
  refine wpList_plain hg fun K hK' => ?_
  unfold Oper.wp
  rcases h.next (P := P) o.type with ⟨h0, hrun⟩ | ⟨s, u, rem', w', hp, hrun, hi, hk, hen⟩
  · simp [execOp, hop, hit, hrun, Result.andThen]
    exact hK' _ _ (hDone h0)
  · simp [execOp, hop, hit, hrun, Result.andThen]
    exact hK' _ _ (hMore s u rem' w' hp hi hk (hen w' (Below.refl _ _)))

theorem wpList_mapLen (hg : o.guard = none) (m : Operand) (t : TypeId) (hop : o.op = Op.call { callee := Callee.builtin Builtin.len, args := #[m], argTypes := #[t] }) (k e : TypeId) (ht : P.underlying t = some (.map k e)) (v : Value) (f : Ents) (hm : a.eval m = v) (h : MapV w v f)
    (hK : wpList P ops Q rest (a.put o.dst (.int .i64 f.length)) w) :
    wpList P ops Q (o :: rest) a w := by
  refine wpList_plain hg fun K hK' => ?_
  have hrun := h.len ht o.type
  unfold Oper.wp
  simp [execOp, hop, resolve, invoke, builtin, hm, hrun, Result.andThen]
  exact hK' _ _ hK
end
end Go.Proofs.Qxb6626248aDoor
