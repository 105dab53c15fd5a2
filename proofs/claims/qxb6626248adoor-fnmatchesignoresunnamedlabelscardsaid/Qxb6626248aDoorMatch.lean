import Derived.Test.Qxb6626248aDoorAdmits
namespace Go.Proofs.Qxb6626248aDoor
open Go.ChangeShapes Go.WideShapes Go.ChangeAt Go.RowKit
set_option linter.unusedVariables false
set_option linter.unusedSimpArgs false

/-- what ParseInt's error road wants of the two variables -/
def Globs (w : World) : Prop := ∃ v1 v2, w.cell? ⟨0, 0, none⟩ = some v1 ∧ (v1 = .nilIface ∨ ∃ t p, v1 = .iface t p) ∧ w.cell? ⟨1, 0, none⟩ = some v2 ∧ (v2 = .nilIface ∨ ∃ t p, v2 = .iface t p)
theorem Globs.below {w w' : World} (h : Globs w) (hb : Below w.heap.size w w') : Globs w' := by
  obtain ⟨v1, v2, g1, g2, g3, g4⟩ := h
  exact ⟨v1, v2, cell_below hb g1, g2, cell_below hb g3, g4⟩

abbrev reqCells (p pe : Option Nat) (q : Req) : Array Value := #[.map p, .map pe, .bool q.pres, .bool q.abst, .int .i64 q.lo, .int .i64 q.up, .bool q.hasLo, .bool q.hasUp]
theorem cell_at {w : World} {B : Nat} {cs : Array Value} {t : TypeId} (h : w.heap[B]? = some (.cells cs t (0, 0))) (i : Nat) {v : Value} (hv : cs[i]? = some v) : w.cell? ⟨B, i, none⟩ = some v := by
  rw [cell_of_row w B i cs t (0, 0) h, hv]

/-- the folded requirements on one key, in memory -/
structure ReqBlk (w : World) (base B : Nat) (q : Req) (p pe : Option Nat) (fa fe : Ents) : Prop where
  low : base ≤ B
  blk : w.heap[B]? = some (.cells (reqCells p pe q) 54 (0, 0))
  ma : MapV w (.map p) fa
  me : MapV w (.map pe) fe
  ua : Units fa
  ue : Units fe
  ba : ∀ k, p = some k → base ≤ k
  be : ∀ k, pe = some k → base ≤ k
  nn : p.isNone = !q.aset
  al : q.aset = true → ∀ s, (look fa s).isSome = hasS q.al s
  al0 : q.aset = false → fa = []
  ex : ∀ s, (look fe s).isSome = hasS q.ex s

theorem ReqBlk.below {w w' : World} {base B : Nat} {q : Req} {p pe : Option Nat} {fa fe : Ents} (h : ReqBlk w base B q p pe fa fe) (hb : Below w.heap.size w w') : ReqBlk w' base B q p pe fa fe :=
  { h with blk := (hb.block B (lt_of_block h.blk)).trans h.blk, ma := h.ma.below hb, me := h.me.below hb }
theorem ReqBlk.kept {w w' : World} {base B : Nat} {q : Req} {p pe : Option Nat} {fa fe : Ents} (h : ReqBlk w base B q p pe fa fe) {P : Nat → Prop} (hb : Keeps P w w') (hP : ∀ k, base ≤ k → ¬ P k) : ReqBlk w' base B q p pe fa fe :=
  { h with blk := (hb.block B (lt_of_block h.blk) (hP _ h.low)).trans h.blk, ma := h.ma.same (fun k hk e => hb.block k hk (hP k (h.ba k (by simpa using e)))), me := h.me.same (fun k hk e => hb.block k hk (hP k (h.be k (by simpa using e)))) }

theorem ReqBlk.admits {w : World} {base B : Nat} {q : Req} {p pe : Option Nat} {fa fe : Ents} (h : ReqBlk w base B q p pe fa fe) (s : ByteArray) : (!(look fe s).isSome && ((look fa s).isSome || p.isNone)) = (!hasS q.ex s && (!q.aset || hasS q.al s)) := by
  rw [h.ex s, h.nn]
  cases ha : q.aset with
  | true => rw [h.al ha s]; simp
  | false => rw [h.al0 ha]; simp [look]

theorem matches_none (w : World) (base B : Nat) (q : Req) (p pe : Option Nat) (fa fe : Ents) (s : ByteArray) (h : ReqBlk w base B q p pe fa fe) :
    Calls Tryd.prog 16 #[.pointer (some ⟨B, 0, none⟩), .string s, .bool false] w fun e w' => e = .returned (.bool (meets q none)) ∧ w' = w := by
  have c2 := cell_at h.blk 2 (v := .bool q.pres) rfl
  unfold meets
  go_enter Tryd.func16, Tryd.ntmps16
  go_wp2
  go_ret
  exact ⟨rfl, rfl⟩

set_option maxRecDepth 100000 in
set_option maxHeartbeats 2000000 in
theorem matches_some (w : World) (base B : Nat) (q : Req) (p pe : Option Nat) (fa fe : Ents) (s : ByteArray) (h : ReqBlk w base B q p pe fa fe) (hs : s.size ≤ 281474976710656) (G : Globs w) :
    Calls Tryd.prog 16 #[.pointer (some ⟨B, 0, none⟩), .string s, .bool true] w fun e w' => e = .returned (.bool (meets q (some s))) ∧ Below w.heap.size w w' := by
  have AD := h.admits s
  have hb0 := h.blk
  have ma := h.ma
  have me := h.me
  have ua := h.ua
  have ue := h.ue
  have hB := lt_of_block h.blk
  clear h
  obtain ⟨key, pres, abst, aset, alA, alC, al, exA, exC, ex, hasLo, lo, hasUp, up⟩ := q
  simp only [reqCells] at *
  obtain ⟨r, hr⟩ : ∃ r, r = meets ⟨key, pres, abst, aset, alA, alC, al, exA, exC, ex, hasLo, lo, hasUp, up⟩ (some s) := ⟨_, rfl⟩
  rw [← hr]
  have HR := hide hr
  clear hr
  have c0 := cell_at hb0 0 rfl
  have c1 := cell_at hb0 1 rfl
  have c4 := cell_at hb0 3 rfl
  cases abst with
  | true =>
    clear hb0
    go_enter Tryd.func16, Tryd.ntmps16
    go_wp2
    go_ret
    exact ⟨ret_bool (by rw [HR.out]; simp [meets]), Below.refl _ _⟩
  | false =>
    have AC := admits_any B p (.map pe) fa fe s w c0 c1 ma me ua ue
    rw [AD] at AC
    have HB := hide hb0
    clear hb0 AD c0 c1 ma me ua ue
    go_enter Tryd.func16, Tryd.ntmps16
    go_wp2_with fail
    refine AC.mono ?_
    rintro e w1 ⟨rfl, B1⟩
    clear AC c4
    have s1 := B1.size
    have hb1 := (B1.block B hB).trans HB.out
    have hB1 : B < w1.heap.size := by omega
    cases hA : (!hasS ex s && (!aset || hasS al s)) with
    | false =>
      have H1 := hide hA
      clear hA hb1
      go_wp2
      go_ret
      exact ⟨ret_bool (by rw [HR.out]; simp only [meets]; rw [Bool.not_false, Bool.true_and, H1.out]; rfl), B1⟩
    | true =>
      have H1 : Hid (hasS ex s = false ∧ (aset = true → hasS al s = true)) := by
        simp only [Bool.and_eq_true, Bool.not_eq_true', Bool.or_eq_true] at hA
        exact ⟨hA.1, fun h => by rcases hA.2 with h2 | h2; rw [h] at h2; cases h2; exact h2⟩
      have H2 : Hid ((!aset || hasS al s) = true) := by
        simp only [Bool.and_eq_true] at hA
        exact hA.2
      have H3 := hide (H1.out.1)
      clear hA H1
      have c5 := cell_at hb1 4 rfl
      have c6 := cell_at hb1 5 rfl
      have c7 := cell_at hb1 6 rfl
      have c8 := cell_at hb1 7 rfl
      cases hasLo with
      | false =>
        cases hasUp with
        | false =>
          clear hb1
          go_wp2
          go_ret
          exact ⟨ret_bool (by rw [HR.out]; simp [meets, H3.out, H2.out]), B1⟩
        | true =>
          go_wp2_with fail
          obtain ⟨v1, v2, g1, g2, g3, g4⟩ := G.below B1
          refine (parseInt_any s w1 hs v1 v2 g1 g2 g3 g4).mono ?_
          rintro e w2 ⟨⟨v, err, rfl, hv⟩, B2⟩
          clear g1 g2 g3 g4
          have hb2 := (B2.block B hB1).trans hb1
          have B2' := below_step B1 s1 B2
          clear hb1 B2
          have c5 := cell_at hb2 4 rfl
          have c6 := cell_at hb2 5 rfl
          have c7 := cell_at hb2 6 rfl
          have c8 := cell_at hb2 7 rfl
          clear hb2
          rcases hv with ⟨hp, rfl⟩ | ⟨hp, te, pe', rfl⟩
          · have HP := hide hp
            clear hp
            by_cases h2 : v < up
            · have N2 := hide (decide_eq_true h2)
              go_wp2
              go_ret
              exact ⟨ret_bool (by rw [HR.out]; simp [meets, H3.out, H2.out, HP.out, N2.out]), B2'⟩
            · have N2 := hide (decide_eq_false h2)
              go_wp2
              go_ret
              exact ⟨ret_bool (by rw [HR.out]; simp [meets, H3.out, H2.out, HP.out, N2.out]), B2'⟩
          · have HP := hide hp
            clear hp
            go_wp2
            go_ret
            exact ⟨ret_bool (by rw [HR.out]; simp [meets, H3.out, H2.out, HP.out]), B2'⟩
      | true =>
        go_wp2_with fail
        obtain ⟨v1, v2, g1, g2, g3, g4⟩ := G.below B1
        refine (parseInt_any s w1 hs v1 v2 g1 g2 g3 g4).mono ?_
        rintro e w2 ⟨⟨v, err, rfl, hv⟩, B2⟩
        clear g1 g2 g3 g4
        have hb2 := (B2.block B hB1).trans hb1
        have B2' := below_step B1 s1 B2
        clear hb1 B2
        have c5 := cell_at hb2 4 rfl
        have c6 := cell_at hb2 5 rfl
        have c7 := cell_at hb2 6 rfl
        have c8 := cell_at hb2 7 rfl
        clear hb2
        rcases hv with ⟨hp, rfl⟩ | ⟨hp, te, pe', rfl⟩
        · have HP := hide hp
          clear hp
          by_cases h1 : lo < v
          · have N1 := hide (decide_eq_true h1)
            cases hasUp with
            | false =>
              go_wp2
              go_ret
              exact ⟨ret_bool (by rw [HR.out]; simp [meets, H3.out, H2.out, HP.out, N1.out]), B2'⟩
            | true =>
              by_cases h2 : v < up
              · have N2 := hide (decide_eq_true h2)
                go_wp2
                go_ret
                exact ⟨ret_bool (by rw [HR.out]; simp [meets, H3.out, H2.out, HP.out, N1.out, N2.out]), B2'⟩
              · have N2 := hide (decide_eq_false h2)
                go_wp2
                go_ret
                exact ⟨ret_bool (by rw [HR.out]; simp [meets, H3.out, H2.out, HP.out, N1.out, N2.out]), B2'⟩
          · have N1 := hide (decide_eq_false h1)
            go_wp2
            go_ret
            exact ⟨ret_bool (by rw [HR.out]; simp [meets, H3.out, H2.out, HP.out, N1.out]), B2'⟩
        · have HP := hide hp
          clear hp
          go_wp2
          go_ret
          exact ⟨ret_bool (by rw [HR.out]; simp [meets, H3.out, H2.out, HP.out]), B2'⟩
end Go.Proofs.Qxb6626248aDoor
