import Derived.Test.Qxb6626248aDoorSel
namespace Go.Proofs.Qxb6626248aDoor
open Go.RowKit
set_option linter.unusedVariables false
set_option linter.unusedSimpArgs false

/-- every named key's label meets its requirement -/
def allMeet (qs : List Req) (f : Ents) : Bool := qs.all (fun q => meets q (lookS f q.key))
theorem selects_eq (rs : List Req) (f : Ents) : selects rs f = allMeet (firsts rs) f := rfl
theorem allMeet_false {qs : List Req} {f : Ents} {q : Req} (hq : q ∈ qs) (h : meets q (lookS f q.key) = false) : allMeet qs f = false := by
  unfold allMeet
  rw [Bool.eq_false_iff]
  intro ha
  have := List.all_eq_true.1 ha q hq
  rw [h] at this
  cases this
theorem allMeet_true {qs : List Req} {f : Ents} (h : ∀ q ∈ qs, meets q (lookS f q.key) = true) : allMeet qs f = true := List.all_eq_true.2 h

/-- is s named by a requirement that needs it there? -/
def needs (qs : List Req) (s : ByteArray) : Bool := qs.any (fun q => decide (q.key = s) && q.pres)

theorem lookS_some {f : Ents} (hs : StrMap f) {s : ByteArray} : (lookS f s).isSome = true ↔ s ∈ keys f := by
  rw [← look_isSome]
  rcases hs.cases s with ⟨h1, h2⟩ | ⟨t, h1, h2, _⟩
  · simp [h1, h2]
  · simp [h1, h2]

theorem count_eq {qs : List Req} {f : Ents} (hn : (keysOf qs).Nodup) (hf : (keys f).Nodup) (hs : StrMap f) :
    (f.filter (fun p => needs qs p.1)).length = ((qs.filter (·.pres)).filter (fun q => (lookS f q.key).isSome)).length := by
  have e1 : (f.filter (fun p => needs qs p.1)).length = ((f.filter (fun p => needs qs p.1)).map (·.1)).length := by simp
  have e2 : ((qs.filter (·.pres)).filter (fun q => (lookS f q.key).isSome)).length = (((qs.filter (·.pres)).filter (fun q => (lookS f q.key).isSome)).map (·.key)).length := by simp
  rw [e1, e2]
  apply List.Perm.length_eq
  rw [List.perm_ext_iff_of_nodup]
  · intro s
    simp only [List.mem_map, List.mem_filter]
    constructor
    · rintro ⟨p, ⟨hp, hneed⟩, rfl⟩
      unfold needs at hneed
      rw [List.any_eq_true] at hneed
      obtain ⟨q, hq, hqq⟩ := hneed
      simp only [Bool.and_eq_true, decide_eq_true_eq] at hqq
      refine ⟨q, ⟨⟨hq, hqq.2⟩, ?_⟩, hqq.1⟩
      rw [hqq.1, lookS_some hs]
      exact List.mem_map_of_mem (f := (·.1)) hp
    · rintro ⟨q, ⟨⟨hq, hpr⟩, hfound⟩, rfl⟩
      rw [lookS_some hs] at hfound
      unfold keys at hfound
      rw [List.mem_map] at hfound
      obtain ⟨p, hp, e⟩ := hfound
      refine ⟨p, ⟨hp, ?_⟩, e⟩
      unfold needs
      rw [List.any_eq_true]
      exact ⟨q, hq, by simp [e, hpr]⟩
  · exact hf.sublist ((List.filter_sublist).map _)
  · exact hn.sublist (((List.filter_sublist).trans List.filter_sublist).map _)

theorem count_all {qs : List Req} {f : Ents} (hn : (keysOf qs).Nodup) (hf : (keys f).Nodup) (hs : StrMap f)
    (hok : ∀ q ∈ qs, ∀ t, lookS f q.key = some t → meets q (some t) = true) :
    decide ((f.filter (fun p => needs qs p.1)).length = nPres qs) = allMeet qs f := by
  rw [count_eq hn hf hs]
  unfold nPres
  by_cases hall : ∀ q ∈ qs.filter (·.pres), (lookS f q.key).isSome = true
  · have e : (qs.filter (·.pres)).filter (fun q => (lookS f q.key).isSome) = qs.filter (·.pres) := List.filter_eq_self.2 hall
    rw [e, decide_eq_true rfl]
    symm
    refine allMeet_true (fun q hq => ?_)
    cases hl : lookS f q.key with
    | some t => exact hok q hq t hl
    | none =>
      have hp : q.pres = false := by
        rw [Bool.eq_false_iff]
        intro hp
        have := hall q (List.mem_filter.2 ⟨hq, hp⟩)
        rw [hl] at this
        cases this
      simp [meets, hp]
  · have hex : ∃ q, q ∈ qs.filter (·.pres) ∧ ¬ (lookS f q.key).isSome = true := by
      refine Classical.byContradiction fun hc => hall fun q hq => ?_
      exact Classical.byContradiction fun hc2 => hc ⟨q, hq, hc2⟩
    obtain ⟨q, hq, hqn⟩ := hex
    have hlt : ((qs.filter (·.pres)).filter (fun q => (lookS f q.key).isSome)).length ≠ (qs.filter (·.pres)).length := by
      intro e
      have := List.length_filter_eq_length_iff.1 e q hq
      exact hqn this
    rw [decide_eq_false hlt]
    symm
    have hm := List.mem_filter.1 hq
    refine allMeet_false hm.1 ?_
    have : lookS f q.key = none := by
      cases hl : lookS f q.key with
      | none => rfl
      | some t => rw [hl] at hqn; exact absurd rfl hqn
    rw [this]
    have hp : q.pres = true := by simpa using hm.2
    simp [meets, hp]

theorem Sel.mem {w : World} {base : Nat} {f : Ents} {qs : List Req} (h : Sel w base f qs) {p : ByteArray × Value} (hp : p ∈ f) : ∃ q, q ∈ qs ∧ SelEnt w base p q := by
  obtain ⟨i, hi⟩ := List.mem_iff_getElem?.1 hp
  have hl : i < qs.length := by rw [← h.1]; exact (List.getElem?_eq_some_iff.1 hi).1
  exact ⟨qs[i], List.getElem_mem hl, h.2 i p _ hi (List.getElem?_eq_getElem hl)⟩
theorem Sel.mem' {w : World} {base : Nat} {f : Ents} {qs : List Req} (h : Sel w base f qs) {q : Req} (hq : q ∈ qs) : ∃ p, p ∈ f ∧ SelEnt w base p q := by
  obtain ⟨i, hi⟩ := List.mem_iff_getElem?.1 hq
  have hl : i < f.length := by rw [h.1]; exact (List.getElem?_eq_some_iff.1 hi).1
  exact ⟨f[i], List.getElem_mem hl, h.2 i _ q (List.getElem?_eq_getElem hl) hi⟩

/-- what has been visited: f is vis and rem together -/
theorem visit_step {f vis rem rem' : Ents} {p : ByteArray × Value} (h : f.Perm (vis ++ rem)) (hr : rem.Perm (p :: rem')) : f.Perm ((p :: vis) ++ rem') := by
  refine h.trans ((hr.append_left vis).trans ?_)
  exact List.perm_middle
theorem visit_mem {f vis rem rem' : Ents} {p : ByteArray × Value} (h : f.Perm (vis ++ rem)) (hr : rem.Perm (p :: rem')) : p ∈ f :=
  h.mem_iff.2 (List.mem_append_right _ (hr.mem_iff.2 (by simp)))
end Go.Proofs.Qxb6626248aDoor
