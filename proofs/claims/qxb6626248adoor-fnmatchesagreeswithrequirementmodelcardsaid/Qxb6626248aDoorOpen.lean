import Derived.Test.Qxb6626248aDoorLaw2
import Derived.LaidMore
import Derived.MakeChecks
import Derived.Deep.Slices
import Derived.Deep.SlicePairs
import Derived.Deep.Strs
namespace Go.Proofs.Qxb6626248aDoor
open Go.ChangeShapes Go.WideShapes Go.ChangeAt Go.RowKit
set_option linter.unusedVariables false
set_option linter.unusedSimpArgs false

theorem cells37 : Tryd.prog.cellsOf 37 = 10 := by kernel_rfl
theorem cells39 : Tryd.prog.cellsOf 39 = 2 := by kernel_rfl
theorem cells9 : Tryd.prog.cellsOf 9 = 1 := by kernel_rfl
theorem cells4 : Tryd.prog.cellsOf 4 = 1 := by kernel_rfl
theorem cells2 : Tryd.prog.cellsOf 2 = 1 := by kernel_rfl
theorem cells35 : Tryd.prog.cellsOf 35 = 1 := by kernel_rfl

section
variable {H : Type} {enc : TypeId × Value → H} {w : World} {base : Nat} {spare : Nat → Bool} {held : Bool}

/-- a slice of strings, opened -/
theorem strs_of {fuel : Nat} {v : Value} {x : DataW H × List MemPlace} (h : DataW.trod enc Tryd.prog w base (fun _ => true) held fuel 35 [v] = some x) :
    ∃ a c l, v = .slice a (List.length l) c ∧ Strs w a l ∧ l.length ≤ 9223372036854775807 := by
  rcases Deep.open_strs Tryd.underlying35 Tryd.underlying9 cells9 h with ⟨h0, _⟩ | ⟨a, len, cap, m, Sx, h0, _, hl, hm, hmm, _, hx⟩
  · simp only [List.cons.injEq, and_true] at h0
    exact ⟨none, 0, [], h0, .inl rfl, by simp⟩
  · simp only [List.cons.injEq, and_true] at h0
    have hm2 : m = cap := by simpa using hmm
    subst hm2
    have hlen : ((List.range len).map Sx).length = len := by simp
    refine ⟨some a, m, (List.range len).map Sx, by rw [hlen]; exact h0, ?_, by rw [hlen]; unfold maxLen at hm; omega⟩
    by_cases hz : len = 0
    · subst hz; exact .inl (by simp)
    · obtain ⟨b, off, spot⟩ := a
      have hspot : spot = none := by simpa [Addr.add] using World.cell?_spot (hx 0 (by omega)).1
      subst hspot
      refine .inr ⟨b, off, rfl, fun i hi => ?_⟩
      rw [hlen] at hi
      have := (hx i (by omega)).1
      rw [add_plain] at this
      rw [this]
      simp [strAt, hi]

set_option maxRecDepth 100000 in
theorem req_of {fuel : Nat} {cs : List Value} {x : DataW H × List MemPlace} {a : Addr} (hc : w.cells? base a 10 = some cs)
    (h : DataW.trod enc Tryd.prog w base (fun _ => true) held fuel 37 cs = some x) : ∃ b o, a = ⟨b, o, none⟩ ∧ ∃ q, ReqAt w b o q := by
  obtain ⟨_, hlen, hcell⟩ := World.cells?_some hc
  obtain ⟨xs, k, hk, hxy, _, hxl, hf⟩ := DataW.trod_struct Tryd.underlying37 h
  have hspot : a.spot = none := by
    have h0 := hcell 0 (by omega)
    rw [List.getElem?_eq_getElem (by omega)] at h0
    simpa [Addr.add] using World.cell?_spot h0
  obtain ⟨b, o, spot⟩ := a
  simp only at hspot
  subst hspot
  refine ⟨b, o, rfl, ?_⟩
  match xs, hxl, cs, hlen with
  | [y0, y1, y2, y3, y4, y5, y6, y7, y8, y9], _, [v0, v1, v2, v3, v4, v5, v6, v7, v8, v9], _ =>
    have g0 := hf 0 _ rfl
    have g1 := hf 1 _ rfl
    have g2 := hf 2 _ rfl
    have g3 := hf 3 _ rfl
    have g4 := hf 4 _ rfl
    have g5 := hf 5 _ rfl
    have g6 := hf 6 _ rfl
    have g7 := hf 7 _ rfl
    have g8 := hf 8 _ rfl
    have g9 := hf 9 _ rfl
    simp [cells9, cells4, cells2, cells35] at g0 g1 g2 g3 g4 g5 g6 g7 g8 g9
    obtain ⟨s0, e0, _⟩ := DataW.trod_string Tryd.underlying9 g0
    obtain ⟨b1, e1, _⟩ := DataW.trod_bool Tryd.underlying4 g1
    obtain ⟨b2, e2, _⟩ := DataW.trod_bool Tryd.underlying4 g2
    obtain ⟨b3, e3, _⟩ := DataW.trod_bool Tryd.underlying4 g3
    obtain ⟨a4, c4, l4, e4, S4, m4⟩ := strs_of g4
    obtain ⟨a5, c5, l5, e5, S5, m5⟩ := strs_of g5
    obtain ⟨b6, e6, _⟩ := DataW.trod_bool Tryd.underlying4 g6
    obtain ⟨n7, e7, _⟩ := DataW.trod_int Tryd.underlying2 g7
    obtain ⟨b8, e8, _⟩ := DataW.trod_bool Tryd.underlying4 g8
    obtain ⟨n9, e9, _⟩ := DataW.trod_int Tryd.underlying2 g9
    simp only [List.cons.injEq, and_true] at e0 e1 e2 e3 e6 e7 e8 e9
    subst e0 e1 e2 e3 e4 e5 e6 e7 e8 e9
    simp only [add_plain] at hcell
    exact ⟨⟨s0, b1, b2, b3, a4, c4, l4, a5, c5, l5, b6, n7, b8, n9⟩, hcell 0 (by omega), hcell 1 (by omega), hcell 2 (by omega), hcell 3 (by omega), hcell 4 (by omega), hcell 5 (by omega), hcell 6 (by omega), hcell 7 (by omega), hcell 8 (by omega), hcell 9 (by omega), S4, S5, m4, m5⟩

theorem reqs_of {a : Option Addr} {len c : Nat} {d : DataW H} {p : List MemPlace} (h : DataW.Trod enc Tryd.prog w base (fun _ => true) held 22 (.slice a len c) d p) :
    ∃ l, List.length l = len ∧ Reqs w a l ∧ List.length l ≤ 9223372036854775807 := by
  obtain ⟨fuel, hf⟩ := h
  rcases Deep.open_slice Tryd.underlying22 hf with ⟨h0, _⟩ | ⟨x, l, cap, m, n, D, Pl, h0, _, hl, hm, hmm, _, hx⟩
  · simp [Value.cells] at h0
    obtain ⟨rfl, rfl, rfl⟩ := h0
    exact ⟨[], rfl, .inl rfl, by simp⟩
  · simp [Value.cells] at h0
    obtain ⟨rfl, rfl, rfl⟩ := h0
    have hm2 : m = c := by simpa using hmm
    subst hm2
    rw [cells37] at hx
    by_cases hz : len = 0
    · subst hz; exact ⟨[], rfl, .inl rfl, by simp⟩
    obtain ⟨b, off, spot⟩ := x
    have hspot : spot = none := by
      obtain ⟨cs', h1, h2⟩ := hx 0 (by omega)
      obtain ⟨b', o', e, _⟩ := req_of h1 h2
      simp [Addr.add] at e
      exact e.2.2
    subst hspot
    have each : ∀ i, i < len → ∃ q, ReqAt w b (off + i * 10) q := fun i hi => by
      obtain ⟨cs', h1, h2⟩ := hx i (by omega)
      obtain ⟨b', o', e, q, hq⟩ := req_of h1 h2
      rw [add_plain] at e
      simp only [Addr.mk.injEq, and_true] at e
      obtain ⟨rfl, rfl⟩ := e
      exact ⟨q, hq⟩
    obtain ⟨Q, hQ⟩ : ∃ f : Nat → Req, ∀ i, i < len → ReqAt w b (off + i * 10) (f i) := by
      classical
      refine ⟨fun i => if hi : i < len then Classical.choose (each i hi) else req0, fun i hi => ?_⟩
      simp only [dif_pos hi]
      exact Classical.choose_spec (each i hi)
    have hlen : ((List.range len).map Q).length = len := by simp
    refine ⟨(List.range len).map Q, hlen, .inr ⟨b, off, rfl, fun i hi => ?_⟩, by rw [hlen]; unfold maxLen at hm; omega⟩
    rw [hlen] at hi
    have e : rqA ((List.range len).map Q) i = Q i := by simp [rqA, hi]
    rw [e]
    exact hQ i hi

theorem labs_of {a : Option Addr} {len c : Nat} {d : DataW H} {p : List MemPlace} (h : DataW.Trod enc Tryd.prog w base (fun _ => true) held 23 (.slice a len c) d p) :
    ∃ l : Labels, List.length l = len ∧ Labs w a l ∧ List.length l ≤ 9223372036854775807 := by
  obtain ⟨fuel, hf⟩ := h
  rcases Deep.open_slice_pairs Tryd.underlying23 Tryd.underlying39 cells39 rfl rfl cells9 cells9 hf with ⟨h0, _⟩ | ⟨x, l, cap, m, n, V0, V1, D0, D1, P0, P1, h0, _, hl, hm, hmm, _, hx⟩
  · simp [Value.cells] at h0
    obtain ⟨rfl, rfl, rfl⟩ := h0
    exact ⟨[], rfl, .inl rfl, by simp⟩
  · simp [Value.cells] at h0
    obtain ⟨rfl, rfl, rfl⟩ := h0
    have hm2 : m = c := by simpa using hmm
    subst hm2
    by_cases hz : len = 0
    · subst hz; exact ⟨[], rfl, .inl rfl, by simp⟩
    obtain ⟨b, off, spot⟩ := x
    have hspot : spot = none := by simpa [Addr.add] using World.cell?_spot (hx 0 (by omega)).1
    subst hspot
    have each : ∀ i, i < len → ∃ q : ByteArray × ByteArray, w.cell? ⟨b, off + i * 2, none⟩ = some (.string q.1) ∧ w.cell? ⟨b, off + i * 2 + 1, none⟩ = some (.string q.2) := fun i hi => by
      obtain ⟨h1, h2, h3, h4⟩ := hx i (by omega)
      obtain ⟨s, e1, _⟩ := DataW.trod_string Tryd.underlying9 h3
      obtain ⟨s', e2, _⟩ := DataW.trod_string Tryd.underlying9 h4
      simp only [List.cons.injEq, and_true] at e1 e2
      rw [add_plain] at h1 h2
      rw [e1] at h1
      rw [e2] at h2
      exact ⟨(s, s'), h1, by rw [Nat.add_assoc]; exact h2⟩
    obtain ⟨Q, hQ⟩ := Deep.choose_lt each
    have hlen : ((List.range len).map Q).length = len := by simp
    refine ⟨(List.range len).map Q, hlen, .inr ⟨b, off, rfl, fun i hi => ?_⟩, by rw [hlen]; unfold maxLen at hm; omega⟩
    rw [hlen] at hi
    have e : lkA ((List.range len).map Q) i = (Q i).1 := by simp [lkA, hi]
    have e' : lvA ((List.range len).map Q) i = (Q i).2 := by simp [lvA, hi]
    rw [e, e']
    exact hQ i hi

theorem trod_iface_named {P : Program} {t : TypeId} {ms : Array (String × TypeId)} {fuel : Nat} {cs : List Value} {n : String} {d : DataW H} {p : List MemPlace} (ht : P.underlying t = some (.interface ms))
    (h : DataW.trod enc P w base spare false fuel t cs = some (.iface n d, p)) : ∃ u v, cs = [.iface u v] := by
  cases fuel with
  | zero => simp [DataW.trod] at h
  | succ k =>
    unfold DataW.trod at h
    rw [ht] at h
    split at h <;> simp_all
end

theorem gRange : Tryd.prog.globalNamed "strconv.ErrRange" = some 1 := by kernel_rfl
theorem gSyntax : Tryd.prog.globalNamed "strconv.ErrSyntax" = some 0 := by kernel_rfl
theorem tRange : (Tryd.prog.globals[1]?).map (·.type) = (Tryd.prog.globals[0]?).map (·.type) := by kernel_rfl
theorem iSyntax : ∃ t ms, (Tryd.prog.globals[0]?).map (·.type) = some t ∧ Tryd.prog.underlying t = some (.interface ms) := ⟨58, _, by kernel_rfl, Tryd.underlying58⟩

def laid5 {H : Type} : List (String × DataW H) := [("math/bits.deBruijn32tab", Rows.laid_math_bits_deBruijn32tab), ("math/bits.deBruijn64tab", Rows.laid_math_bits_deBruijn64tab), ("internal/strconv.uint64pow10", Rows.laid_internal_strconv_uint64pow10), ("strconv.ErrRange", Rows.laid_strconv_ErrRange), ("strconv.ErrSyntax", Rows.laid_strconv_ErrSyntax)]

theorem globs_of {W : World} (h : laidMetH Tryd.prog laid5 W) : Globs W := by
  rw [MakeChecks.laidMetH_plain _ _ _ (by kernel_rfl)] at h
  obtain ⟨ps, ⟨_, _, _, _, _, _, _, _, _, _, ⟨_, _, _, _, _, _, _, _, _, _, ⟨_, _, _, _, _, _, _, _, _, _, ⟨g1, t1, cs1, f1, p1, q1, hg1, ht1, hv1, hd1, ⟨g0, t0, cs0, f0, p0, q0, hg0, ht0, hv0, hd0, _, _⟩, _⟩, _⟩, _⟩, _⟩, _, _⟩ := h
  obtain rfl := Option.some.inj (gRange.symm.trans hg1)
  obtain rfl := Option.some.inj (gSyntax.symm.trans hg0)
  obtain ⟨t, ms, ht, hu⟩ := iSyntax
  obtain rfl := Option.some.inj (ht.symm.trans ht0)
  obtain rfl := Option.some.inj ((tRange.trans ht).symm.trans ht1)
  obtain ⟨u0, v0, e0⟩ := trod_iface_named hu hd0
  obtain ⟨u1, v1, e1⟩ := trod_iface_named hu hd1
  have c0 := World.var?_cell hg0 hv0 0
  have c1 := World.var?_cell hg1 hv1 0
  rw [Array.eq_one_of_toList e0] at c0
  rw [Array.eq_one_of_toList e1] at c1
  exact ⟨.iface u0 v0, .iface u1 v1, by simpa using c0, .inr ⟨_, _, rfl⟩, by simpa using c1, .inr ⟨_, _, rfl⟩⟩
end Go.Proofs.Qxb6626248aDoor
