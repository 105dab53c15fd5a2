import Derived.Test.Qxb6626248aDoorLabel
namespace Go.Proofs.Qxb6626248aDoor
open Go.RowKit
set_option linter.unusedVariables false
set_option linter.unusedSimpArgs false

/-! the first requirement of each key -/
def keysOf (qs : List Req) : List ByteArray := qs.map (·.key)
def addFirst (qs : List Req) (q : Req) : List Req := if hasS (keysOf qs) q.key = true then qs else qs ++ [q]
def firsts (rs : List Req) : List Req := rs.foldl addFirst []

theorem firsts_snoc (rs : List Req) (q : Req) : firsts (rs ++ [q]) = addFirst (firsts rs) q := by
  unfold firsts
  rw [List.foldl_append]
  rfl
theorem req_take (l : List Req) (k : Nat) (h : k < l.length) : l.take (k + 1) = l.take k ++ [rqA l k] := by
  have e : rqA l k = l[k] := by simp [rqA, List.getElem?_eq_getElem h]
  rw [e]
  exact List.take_succ_eq_append_getElem h
theorem firsts_old {l : List Req} {k : Nat} (h : k < l.length) (hm : (rqA l k).key ∈ keysOf (firsts (l.take k))) : firsts (l.take (k + 1)) = firsts (l.take k) := by
  rw [req_take l k h, firsts_snoc, addFirst, if_pos ((hasS_iff _ _).2 hm)]
theorem firsts_new {l : List Req} {k : Nat} (h : k < l.length) (hm : (rqA l k).key ∉ keysOf (firsts (l.take k))) : firsts (l.take (k + 1)) = firsts (l.take k) ++ [rqA l k] := by
  rw [req_take l k h, firsts_snoc, addFirst, if_neg (fun h => hm ((hasS_iff _ _).1 h))]
theorem add_prefix (qs : List Req) (q : Req) : qs <+: addFirst qs q := by
  unfold addFirst
  split
  · exact List.prefix_rfl
  · exact List.prefix_append _ _
theorem fold_prefix (rs qs : List Req) : qs <+: rs.foldl addFirst qs := by
  induction rs generalizing qs with
  | nil => exact List.prefix_rfl
  | cons q r ih => exact (add_prefix qs q).trans (ih _)
theorem firsts_prefix (l : List Req) (k : Nat) : firsts (l.take k) <+: firsts l := by
  conv => rhs; rw [← List.take_append_drop k l]
  unfold firsts
  rw [List.foldl_append]
  exact fold_prefix _ _
theorem keysOf_snoc (qs : List Req) (q : Req) : keysOf (qs ++ [q]) = keysOf qs ++ [q.key] := by simp [keysOf]
theorem firsts_nodup (rs : List Req) : (keysOf (firsts rs)).Nodup := by
  have gen : ∀ (rs qs : List Req), (keysOf qs).Nodup → (keysOf (rs.foldl addFirst qs)).Nodup := by
    intro rs
    induction rs with
    | nil => intro qs h; exact h
    | cons q r ih =>
      intro qs h
      refine ih _ ?_
      unfold addFirst
      split
      · exact h
      · rename_i hn'
        have hn : q.key ∉ keysOf qs := fun h => hn' ((hasS_iff _ _).2 h)
        rw [keysOf_snoc, List.nodup_append]
        exact ⟨h, by simp, by intro a ha b hb; simp at hb; subst hb; intro e; subst e; exact hn ha⟩
  exact gen rs [] (by simp [keysOf])

/-! what a map of strings holds -/
def lookS (f : Ents) (s : ByteArray) : Option ByteArray := match look f s with | some (.string t) => some t | _ => none
def StrMap (f : Ents) : Prop := ∀ s v, look f s = some v → ∃ t : ByteArray, v = .string t ∧ t.size ≤ 281474976710656
theorem StrMap.cases {f : Ents} (h : StrMap f) (s : ByteArray) : (look f s = none ∧ lookS f s = none) ∨ ∃ t, look f s = some (.string t) ∧ lookS f s = some t ∧ t.size ≤ 281474976710656 := by
  cases hl : look f s with
  | none => exact .inl ⟨rfl, by simp [lookS, hl]⟩
  | some v =>
    obtain ⟨t, rfl, ht⟩ := h s v hl
    exact .inr ⟨t, rfl, by simp [lookS, hl], ht⟩
theorem StrMap.put {f : Ents} (h : StrMap f) (s t : ByteArray) (ht : t.size ≤ 281474976710656) : StrMap (put f s (.string t)) := by
  intro x v hv
  rw [look_put] at hv
  split at hv
  · exact ⟨t, by simpa using hv.symm, ht⟩
  · exact h x v hv
theorem StrMap.nil : StrMap [] := fun s v h => by simp [look] at h
theorem labMap_str (l : Labels) (h : ∀ i, i < l.length → (lvA l i).size ≤ 281474976710656) : StrMap (labMap l) := by
  have gen : ∀ k, k ≤ l.length → StrMap (labMap (l.take k)) := by
    intro k
    induction k with
    | zero => intro _; simpa [labMap] using StrMap.nil
    | succ k ih =>
      intro hk
      rw [lab_take l k (by omega), labMap_snoc]
      exact (ih (by omega)).put _ _ (h k (by omega))
  have := gen l.length (Nat.le_refl _)
  rwa [List.take_length] at this

/-- the model's answer -/
def selects (rs : List Req) (f : Ents) : Bool := (firsts rs).all (fun q => meets q (lookS f q.key))
theorem selects_false {l : List Req} {k : Nat} {f : Ents} (hk : k < l.length) (hm : (rqA l k).key ∉ keysOf (firsts (l.take k))) (h : meets (rqA l k) (lookS f (rqA l k).key) = false) : selects l f = false := by
  have hp := firsts_prefix l (k + 1)
  rw [firsts_new hk hm] at hp
  obtain ⟨r, hr⟩ := hp
  unfold selects
  rw [← hr]
  simp [h]

/-- sets by bools -/
def Trues (f : Ents) : Prop := ∀ s v, look f s = some v → v = .bool true
theorem Trues.nil : Trues [] := fun s v h => by simp [look] at h
theorem Trues.put {f : Ents} (h : Trues f) (s : ByteArray) : Trues (put f s (.bool true)) := by
  intro t v hv
  rw [look_put] at hv
  split at hv
  · simpa using hv.symm
  · exact h t v hv
theorem Trues.get {f : Ents} (h : Trues f) (s : ByteArray) : (look f s).getD (.bool false) = .bool (look f s).isSome := by
  cases hl : look f s with
  | none => rfl
  | some v => rw [h s v hl]; rfl
theorem isSome_put (f : Ents) (s : ByteArray) (v : Value) (t : ByteArray) : (look (put f s v) t).isSome = (decide (s = t) || (look f t).isSome) := by
  rw [look_put]
  by_cases h : s = t <;> simp [h]

theorem wpList_look_bool {P : Program} (w : World) {ops : Array Oper} {rest : List Oper} {o : Oper} {a : Act} {Q : Exit → Act → World → Prop} (hg : o.guard = none) (m x : Operand) (t : TypeId) (hop : o.op = Op.lookup t m x false) (k e : TypeId) (ht : P.underlying t = some (.map k e)) (hk : P.underlying k = some .string) (hz : (zeroValue e).run P w = .ok (.bool false) w)
    (v : Value) (f : Ents) (hm : a.eval m = v) (h : MapV w v f) (hu : Trues f) (s : ByteArray) (hx : a.eval x = .string s) (r : Bool) (hr : (look f s).isSome = r)
    (hK : wpList P ops Q rest (a.put o.dst (.bool r)) w) :
    wpList P ops Q (o :: rest) a w := by
  refine wpList_look w hg m x t hop k e ht hk (.bool false) hz v f hm h s hx ?_
  rw [hu.get s, hr]
  exact hK

theorem wpList_look_str {P : Program} (w : World) {ops : Array Oper} {rest : List Oper} {o : Oper} {a : Act} {Q : Exit → Act → World → Prop} (hg : o.guard = none) (m x : Operand) (t : TypeId) (hop : o.op = Op.lookup t m x true) (k e : TypeId) (ht : P.underlying t = some (.map k e)) (hk : P.underlying k = some .string) (hz : (zeroValue e).run P w = .ok (.string ByteArray.empty) w)
    (v : Value) (f : Ents) (hm : a.eval m = v) (h : MapV w v f) (hu : StrMap f) (s : ByteArray) (hx : a.eval x = .string s) (u : ByteArray) (r : Bool) (hr : (lookS f s).getD ByteArray.empty = u ∧ (lookS f s).isSome = r)
    (hK : wpList P ops Q rest (a.put o.dst (.tuple #[.string u, .bool r])) w) :
    wpList P ops Q (o :: rest) a w := by
  refine wpList_look_ok w hg m x t hop k e ht hk (.string ByteArray.empty) hz v f hm h s hx ?_
  obtain ⟨rfl, rfl⟩ := hr
  rcases hu.cases s with ⟨h1, h2⟩ | ⟨t, h1, h2, _⟩
  · rw [h2] at hK; rw [h1]; exact hK
  · rw [h2] at hK; rw [h1]; exact hK
end Go.Proofs.Qxb6626248aDoor
