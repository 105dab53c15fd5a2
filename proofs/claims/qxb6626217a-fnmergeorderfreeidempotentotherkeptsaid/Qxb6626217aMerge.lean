import Derived.Test.Qxb6626217aBuild
import Derived.Test.Qxb6626217aPlain
import Derived.Test.Qxb6626217aApp
namespace Go.Proofs.Qxb6626217a
open Go.ChangeShapes Go.WideShapes Go.ChangeAt Go.RowKit
set_option linter.unusedVariables false
set_option linter.unusedSimpArgs false

abbrev DCell (w : World) (D g n cap : Nat) : Prop := w.heap[D]? = some (.cells #[.slice (some ⟨g, 0, none⟩) n cap] 28 (0, 0))

/-- the first loop, at the head of its k-th round -/
structure Inv1 (base D g cap go co : Nat) (m o : Ms) (w : World) (k p : Nat) (r : Ms) (g' cap' : Nat) (wr : World) : Prop where
  row : Row wr base g' cap' r
  place : g' = g ∨ w.heap.size ≤ g'
  orow : Row wr base go co o
  cell : DCell wr D g m.length cap
  ph : Ph1 m o k r
  low : ∀ q, q < p → ∀ j, k ≤ j → j < o.length → sA m q < sA o j
  keep : Keeps (fun k => k = g ∨ k = D) w wr

theorem Keeps.set1 (w : World) (g j : Nat) (u : Value) : Keeps (fun k => k = g) w (w.setCell ⟨g, j, none⟩ u) := Keeps.setCell _ _ _ rfl

theorem two_cells (w : World) (s t : Int) (e : TypeId) (b : Nat) (hb : b = w.heap.size) : ∀ j u, [Value.int .i64 s, Value.int .i64 t][j]? = some u → (w.alloc (.cells #[.int .i64 s, .int .i64 t] e)).cell? ((⟨b, 0, none⟩ : Addr).add j) = some u := by
  subst hb
  intro j u hj
  match j, hj with
  | 0, hj => simp at hj; subst hj; simp [Addr.add]
  | 1, hj => simp at hj; subst hj; simp [Addr.add]

theorem row_ne {w : World} {base g cap : Nat} {m : Ms} {D g1 n c1 : Nat} (h : Row w base g cap m) (hd : DCell w D g1 n c1) : g ≠ D := by
  rintro rfl
  obtain ⟨_, _, _, cur, hc⟩ := h.block
  have hd' : w.heap[g]? = some (.cells #[.slice (some ⟨g1, 0, none⟩) n c1] 28 (0, 0)) := hd
  rw [hc] at hd'
  simp at hd'

section
variable {base D g cap go co : Nat} {m o : Ms} {w : World} {k p : Nat} {r : Ms} {g' cap' : Nat} {wr wz : World}

theorem Inv1.kept (I : Inv1 base D g cap go co m o w k p r g' cap' wr) (K : Keeps (fun _ => False) wr wz) : Inv1 base D g cap go co m o w k p r g' cap' wz where
  row := K.row I.row (fun h => h)
  place := I.place
  orow := K.row I.orow (fun h => h)
  cell := (K.block D (lt_of_block I.cell) (fun h => h)).trans I.cell
  ph := I.ph
  low := I.low
  keep := I.keep.andThen K (fun _ _ h => h.elim)

theorem Inv1.go_ne (I : Inv1 base D g cap go co m o w k p r g' cap' wr) (hgo : g ≠ go) (hl : go < w.heap.size) : g' ≠ go := by
  have := I.place; omega

theorem Inv1.lowNext (ao : SAsc o) (hk : k < o.length) {p' : Nat} (X : ∀ q, q < p' → sA m q < sA o k) : ∀ q, q < p' → ∀ j, k + 1 ≤ j → j < o.length → sA m q < sA o j := by
  intro q hq j hj hjl
  have h1 := X q hq
  have h2 := ao k j (by omega) hjl
  omega

theorem Inv1.skip (I : Inv1 base D g cap go co m o w k p r g' cap' wr) (K : Keeps (fun _ => False) wr wz) (am : SAsc m) (ao : SAsc o) (hk : k < o.length) {p' : Nat} (hp : p' < m.length) (e : sA m p' = sA o k) (X : ∀ q, q < p' → sA m q < sA o k) (ht : tA o k ≤ tA r p') :
    Inv1 base D g cap go co m o w (k + 1) p' r g' cap' wz :=
  { I.kept K with ph := I.ph.skip am ao hk hp e ht, low := Inv1.lowNext ao hk X }

theorem Inv1.upd (I : Inv1 base D g cap go co m o w k p r g' cap' wr) (hgo : g ≠ go) (hl : go < w.heap.size) (K : Keeps (fun _ => False) wr wz) (am : SAsc m) (ao : SAsc o) (hk : k < o.length) {p' : Nat} (hp : p' < m.length) (e : sA m p' = sA o k) (X : ∀ q, q < p' → sA m q < sA o k) (ht : tA r p' < tA o k) :
    Inv1 base D g cap go co m o w (k + 1) p' (r.set p' (sA r p', tA o k)) g' cap' (wz.setCell ⟨g', p' * 2 + 1, none⟩ (.int .i64 (tA o k))) := by
  have J := I.kept K
  have K2 : Keeps (fun k => k = g') wz (wz.setCell ⟨g', p' * 2 + 1, none⟩ (.int .i64 (tA o k))) := Keeps.setCell _ _ _ rfl
  have ne := row_ne J.row J.cell
  refine ⟨J.row.storeT p' _, J.place, K2.row J.orow (fun h => J.go_ne hgo hl h.symm), (K2.block D (lt_of_block J.cell) (fun h => ne h.symm)).trans J.cell, J.ph.upd am ao hk hp e ht, Inv1.lowNext ao hk X, ?_⟩
  refine J.keep.andThen K2 (fun i hi h => ?_)
  have := J.place
  exact .inl (by omega)

theorem Inv1.app (I : Inv1 base D g cap go co m o w k p r g' cap' wr) (hgo : g ≠ go) (hl : go < w.heap.size) (K : Keeps (fun _ => False) wr wz) (ao : SAsc o) (hk : k < o.length) {p' : Nat} (e : ∀ i, i < m.length → sA m i ≠ sA o k) (X : ∀ q, q < p' → sA m q < sA o k)
    {g2 cap2 : Nat} {w2 : World} (hrow : Row w2 base g2 cap2 (r ++ [(sA o k, tA o k)])) (hpl : g2 = g' ∨ wz.heap.size ≤ g2) (K2 : Keeps (fun k => k = g') wz w2) :
    Inv1 base D g cap go co m o w (k + 1) p' (r ++ [(sA o k, tA o k)]) g2 cap2 w2 := by
  have J := I.kept K
  have ne := row_ne J.row J.cell
  have pl := J.place
  have sz := J.keep.size
  refine ⟨hrow, by omega, K2.row J.orow (fun h => J.go_ne hgo hl h.symm), (K2.block D (lt_of_block J.cell) (fun h => ne h.symm)).trans J.cell, J.ph.app ao hk e, Inv1.lowNext ao hk X, ?_⟩
  exact J.keep.andThen K2 (fun i hi h => .inl (by omega))
end

/-- the second loop, at the head of its round f -/
structure Inv2 (base D g cap : Nat) (m o : Ms) (w : World) (g' cap' : Nat) (r : Ms) (f : Nat) (q : Ms) (wr : World) : Prop where
  row : Row wr base g' cap' q
  place : g' = g ∨ w.heap.size ≤ g'
  cell : DCell wr D g m.length cap
  ph : Ph2 r q f
  keep : Keeps (fun k => k = g ∨ k = D) w wr

/-- its inner loop -/
structure Inv3 (base : Nat) (w : World) (g' cap' : Nat) (f : Nat) (q : Ms) (j : Nat) (q' : Ms) (wz wq : World) : Prop where
  row : Row wq base g' cap' q'
  hole : Hole q q' f j
  keep : Keeps (fun k => k = g') wz wq

theorem Inv3.step {base : Nat} {w : World} {g' cap' f : Nat} {q : Ms} {j : Nat} {q' : Ms} {wz wq wq' : World} (I : Inv3 base w g' cap' f q j q' wz wq) (hf : f < q.length) (hj : 0 < j) (hb : sA q f < sA q' (j - 1)) (K : Keeps (fun _ => False) wq wq') :
    Inv3 base w g' cap' f q (j - 1) (q'.set j (sA q' (j - 1), tA q' (j - 1))) wz ((wq'.setCell ⟨g', j * 2, none⟩ (.int .i64 (sA q' (j - 1)))).setCell ⟨g', j * 2 + 1, none⟩ (.int .i64 (tA q' (j - 1)))) where
  row := (K.row I.row (fun h => h)).store j _ _
  hole := I.hole.step hf hj hb
  keep := (I.keep.andThen K (fun _ _ h => h.elim)).trans ((Keeps.set1 _ _ _ _).trans (Keeps.set1 _ _ _ _))

theorem Inv2.insert {base D g cap : Nat} {m o : Ms} {w : World} {g' cap' : Nat} {r : Ms} {f : Nat} {q : Ms} {wr wz wq wq' : World} {j : Nat} {q' : Ms} (I : Inv2 base D g cap m o w g' cap' r f q wr) (K0 : Keeps (fun _ => False) wr wz) (J : Inv3 base w g' cap' f q j q' wz wq)
    (hf : f < q.length) (hs : j = 0 ∨ sA q' (j - 1) ≤ sA q f) (K : Keeps (fun _ => False) wq wq') :
    Inv2 base D g cap m o w g' cap' r (f + 1) (q'.set j (sA q f, tA q f)) ((wq'.setCell ⟨g', j * 2, none⟩ (.int .i64 (sA q f))).setCell ⟨g', j * 2 + 1, none⟩ (.int .i64 (tA q f))) := by
  have ne := row_ne I.row I.cell
  have pl := I.place
  have K1 : Keeps (fun k => k = g') wq' ((wq'.setCell ⟨g', j * 2, none⟩ (.int .i64 (sA q f))).setCell ⟨g', j * 2 + 1, none⟩ (.int .i64 (tA q f))) := (Keeps.set1 _ _ _ _).trans (Keeps.set1 _ _ _ _)
  have K2 : Keeps (fun k => k = g') wr ((wq'.setCell ⟨g', j * 2, none⟩ (.int .i64 (sA q f))).setCell ⟨g', j * 2 + 1, none⟩ (.int .i64 (tA q f))) :=
    ((⟨K0.os, K0.tape, K0.output, K0.size, fun k hk _ => K0.block k hk (fun h => h)⟩ : Keeps (fun k => k = g') wr wz).trans (J.keep.andThen K (fun _ _ h => h.elim))).trans K1
  refine ⟨(K.row J.row (fun h => h)).store j _ _, I.place, (K2.block D (lt_of_block I.cell) (fun h => ne h.symm)).trans I.cell, I.ph.insert J.hole hf hs, ?_⟩
  exact I.keep.andThen K2 (fun i hi h => .inl (by omega))

set_option maxRecDepth 100000 in
set_option maxHeartbeats 1000000 in
theorem merge_any (base D g cap go co : Nat) (m o : Ms) (w : World)
    (hD : DCell w D g m.length cap)
    (hm : Row w base g cap m) (ho : Row w base go co o) (hgo : g ≠ go)
    (lm : m.length ≤ 1048576) (lo : o.length ≤ 1048576) (am : SAsc m) (ao : SAsc o) :
    Calls Try.prog 9 #[.pointer (some ⟨D, 0, none⟩), .agg #[.slice (some ⟨go, 0, none⟩) o.length co]] w fun e w' =>
      e = .returned (.tuple #[]) ∧ ∃ r g' cap', IsMerge m o r ∧ Row w' base g' cap' r ∧ (g' = g ∨ w.heap.size ≤ g') ∧ DCell w' D g' r.length cap' ∧ Keeps (fun k => k = g ∨ k = D) w w' := by
  have dc := cell_of_one hD
  have df := free_of_one hD
  have dl := lt_of_block hD
  have gol := ho.block.2.1
  have gl := hm.block.2.1
  have HD : Hid (w.heap[D]? = some (.cells #[.slice (some ⟨g, 0, none⟩) m.length cap] 28 (0, 0))) := hD
  clear hD
  obtain ⟨i0, hi, hz0, hz1, hz2⟩ := info_parts info34
  go_enter Try.func9, Try.ntmps9
  go_wp2
  go_quiet (fail)
  go_wp2
  go_loopw [4, 6, 25] (fun v i x wr => ∃ k p r g' cap', x = .int .i64 (k : Nat) ∧ k ≤ o.length ∧ i = .int .i64 (p : Nat) ∧ p ≤ m.length ∧ v = .slice (some ⟨g', 0, none⟩) (List.length r) cap' ∧ Inv1 base D g cap go co m o w k p r g' cap' wr) (fun _ _ x _ => o.length - (intOf x).toNat)
  case atStart =>
    refine ⟨0, 0, m, g, cap, rfl, Nat.zero_le _, rfl, Nat.zero_le _, rfl, ?_⟩
    have I : Inv1 base D g cap go co m o w 0 0 m g cap w := ⟨hm, .inl rfl, ho, HD.out, Ph1.start am, fun q hq => by omega, Keeps.refl _ _⟩
    exact I.kept ((Keeps.alloc _ _ _).trans (Keeps.drewN _ _ _))
  case round =>
    obtain ⟨k, p, r, g', cap', rfl, hk, rfl, hp, rfl, I⟩ := hrel
    have g'l := I.row.block.2.1
    have gol' := I.orow.block.2.1
    by_cases hko : k < o.length
    · have oc0 := I.orow.cell0 hko
      have oc1 := I.orow.cell1 hko
      have X : Hid (∀ q, q < p → sA m q < sA o k) := fun q hq => I.low q hq k (Nat.le_refl _) hko
      go_wp2
      clear oc0 oc1
      go_loopw [6] (fun i wq => ∃ p' n, i = .int .i64 (p' : Nat) ∧ p' ≤ m.length ∧ Hid (∀ q, q < p' → sA m q < sA o k) ∧ wq = (wr.alloc (.cells #[.int .i64 (sA o k), .int .i64 (tA o k)] 34)).drewN n) (fun i _ => m.length - (intOf i).toNat)
      case atStart => exact ⟨p, 0, rfl, hp, X, rfl⟩
      case round =>
        clear X hp
        obtain ⟨p', n, rfl, hp', X, rfl⟩ := hrel
        by_cases hpm : p' < m.length
        · have hpr : p' < r.length := Nat.lt_of_lt_of_le hpm I.ph.lo
          have rc0 := I.row.cell0 hpr
          rw [I.ph.snd p' hpm] at rc0
          have rc1 := I.row.cell1 hpr
          rcases Int.lt_trichotomy (sA m p') (sA o k) with hc | hc | hc
          · clear rc1
            go_wp2
            go_quiet (fail)
            go_wp2
            go_roundw
            case rel =>
              refine ⟨p' + 1, _, by go_num, by omega, ?_, rfl⟩
              intro q hq
              by_cases hqp : q = p'
              · subst hqp; exact hc
              · exact X.out q (by omega)
            case measure => simp [intOf]; omega
          · have he : (sA m p' == sA o k) = true := by simpa using hc
            have hnl : ¬ sA m p' < sA o k := by omega
            have C : Hid (sA m p' = sA o k) := hc
            clear hc
            by_cases ht : tA o k ≤ tA r p'
            · go_wp2
              go_quiet (fail)
              go_wp2
              go_quiet (fail)
              go_wp2
              go_quiet (fail)
              go_wp2
              go_roundw
              case rel => exact ⟨k + 1, p', r, g', cap', by go_num, by omega, rfl, by omega, rfl, I.skip ((Keeps.alloc _ _ _).trans (Keeps.drewN _ _ _)) am ao hko hpm C.out X.out ht⟩
              case measure => simp [intOf]; omega
            · have rf1 := I.row.free (p' * 2 + 1)
              go_wp2
              go_quiet (fail)
              go_wp2
              go_quiet (fail)
              go_wp2
              go_quiet (fail)
              go_wp2
              go_roundw
              case rel =>
                refine ⟨k + 1, p', r.set p' (sA r p', tA o k), g', cap', by go_num, by omega, rfl, by omega, by simp, ?_⟩
                exact I.upd hgo gol ((Keeps.alloc _ _ _).trans (Keeps.drewN _ _ _)) am ao hko hpm C.out X.out (by omega)
              case measure => simp [intOf]; omega
          · have he : (sA m p' == sA o k) = false := by simpa using (by omega : sA m p' ≠ sA o k)
            have hnl : ¬ sA m p' < sA o k := by omega
            have bs := I.row.block.1
            have hrl := I.ph.hi
            go_wp2
            go_quiet (fail)
            go_wp2
            go_quiet (fail)
            go_wp2
            go_quiet (fail)
            go_wp2_with (at_builtin; refine wpList_append_msg _ rfl _ _ 26 rfl base i0 (.agg #[.int .i64 0, .int .i64 0]) Try.underlying26 hi hz0 hz1 hz2 rfl g' cap' r rfl ?own ⟨wr.heap.size + 1, 0, none⟩ 1 (sA o k) (tA o k) rfl ?c1 ?c2 ?c3 ?_)
            case own => exact Keeps.row (P := fun _ => False) (((Keeps.alloc _ _ _).trans (Keeps.drewN _ _ _)).trans (Keeps.alloc _ _ _)) I.row (fun h => h)
            case c1 => exact two_cells _ _ _ _ _ (by simp)
            case c2 => omega
            case c3 => simp; omega
            intro g2 cap2 w2 hrow hpl hK
            have J := I.app hgo gol (((Keeps.alloc _ _ _).trans (Keeps.drewN _ _ _)).trans (Keeps.alloc _ _ _)) ao hko (p' := p') (fun i hi e => by
              rcases Nat.lt_trichotomy i p' with h1 | h1 | h1
              · have := X.out i h1; omega
              · subst h1; omega
              · have := am p' i h1 hi; omega) X.out hrow (by simpa using hpl) hK
            clear hrow hpl hK
            go_wp2
            go_roundw
            case rel => exact ⟨k + 1, p', _, g2, cap2, by go_num, by omega, rfl, by omega, by simp, J⟩
            case measure => simp [intOf]; omega
        · have hd : decide ((p' : Int) < (m.length : Int)) = false := decide_eq_false (by omega)
          have bs := I.row.block.1
          have hrl := I.ph.hi
          go_wp2
          go_quiet (fail)
          go_wp2
          go_quiet (fail)
          go_wp2
          go_quiet (fail)
          go_wp2_with (at_builtin; refine wpList_append_msg _ rfl _ _ 26 rfl base i0 (.agg #[.int .i64 0, .int .i64 0]) Try.underlying26 hi hz0 hz1 hz2 rfl g' cap' r rfl ?own ⟨wr.heap.size + 1, 0, none⟩ 1 (sA o k) (tA o k) rfl ?c1 ?c2 ?c3 ?_)
          case own => exact Keeps.row (P := fun _ => False) (((Keeps.alloc _ _ _).trans (Keeps.drewN _ _ _)).trans (Keeps.alloc _ _ _)) I.row (fun h => h)
          case c1 => exact two_cells _ _ _ _ _ (by simp)
          case c2 => omega
          case c3 => simp; omega
          intro g2 cap2 w2 hrow hpl hK
          have J := I.app hgo gol (((Keeps.alloc _ _ _).trans (Keeps.drewN _ _ _)).trans (Keeps.alloc _ _ _)) ao hko (p' := p') (fun i hi e => by
            have := X.out i (by omega); omega) X.out hrow (by simpa using hpl) hK
          clear hrow hpl hK
          go_wp2
          go_roundw
          case rel => exact ⟨k + 1, p', _, g2, cap2, by go_num, by omega, rfl, by omega, by simp, J⟩
          case measure => simp [intOf]; omega
    · obtain rfl : k = o.length := by omega
      have J0 : Inv2 base D g cap m o w g' cap' r m.length r wr := ⟨I.row, I.place, I.cell, Ph2.start I.ph am, I.keep⟩
      have P1 := I.ph
      have hrl := I.ph.hi
      have hrl0 := I.ph.lo
      clear I
      go_wp2
      go_loopw [10] (fun x wy => ∃ f q, x = .int .i64 (f : Nat) ∧ m.length ≤ f ∧ f ≤ r.length ∧ Hid (q.length = r.length) ∧ Inv2 base D g cap m o w g' cap' r f q wy) (fun x _ => r.length - (intOf x).toNat)
      case atStart => exact ⟨m.length, r, rfl, Nat.le_refl _, hrl0, rfl, J0⟩
      case round =>
        clear J0 g'l gol' dc df
        obtain ⟨f, q, rfl, hf0, hf, hq, J⟩ := hrel
        obtain ⟨wy, hwy⟩ : ∃ x, x = wr := ⟨_, rfl⟩
        subst hwy
        have g'l := J.row.block.2.1
        by_cases hfr : f < r.length
        · have hfq : f < q.length := by have := hq.out; omega
          have qc0 := J.row.cell0 hfq
          have qc1 := J.row.cell1 hfq
          go_wp2
          go_loopw [12] (fun x wq => ∃ j q', x = .int .i64 (j : Nat) ∧ j ≤ f ∧ Inv3 base w g' cap' f q j q' (wy.alloc (.cells #[.int .i64 (sA q f), .int .i64 (tA q f)] 34)) wq) (fun x _ => (intOf x).toNat)
          case atStart => exact ⟨f, q, rfl, Nat.le_refl _, ⟨Keeps.row (P := fun _ => False) (Keeps.alloc _ _ _) J.row (fun h => h), Hole.start q f, Keeps.refl _ _⟩⟩
          case round =>
            clear qc0 qc1
            obtain ⟨j, q', rfl, hj, L⟩ := hrel
            have hql := L.hole.len
            have ic0 : wr.cell? ⟨wy.heap.size, 0, none⟩ = some (.int .i64 (sA q f)) := by
              rw [World.cell?_of_block (L.keep.block _ (by simp) (Nat.ne_of_gt g'l))]; simp
            have ic1 : wr.cell? ⟨wy.heap.size, 1, none⟩ = some (.int .i64 (tA q f)) := by
              rw [World.cell?_of_block (L.keep.block _ (by simp) (Nat.ne_of_gt g'l))]; simp
            have jq : j < q'.length := by have := hq.out; omega
            have wc0 := L.row.cell0 jq
            have wc1 := L.row.cell1 jq
            have wf0 := L.row.free (j * 2)
            have wf1 := L.row.free (j * 2 + 1)
            by_cases hj0 : 0 < j
            · have jq1 : j - 1 < q'.length := by omega
              have vc0 := L.row.cell0 jq1
              have vc1 := L.row.cell1 jq1
              by_cases hlt : sA q f < sA q' (j - 1)
              · go_wp2
                go_quiet (fail)
                go_wp2
                go_roundw
                case rel => 
                  refine ⟨j - 1, _, by go_num, by omega, L.step hfq hj0 hlt (Keeps.drewN _ _ _)⟩
                case measure => simp [intOf]; omega
              · go_wp2
                go_quiet (fail)
                go_wp2
                go_roundw
                case rel =>
                  refine ⟨f + 1, _, by go_num, by omega, by omega, ?_, J.insert (Keeps.alloc _ _ _) L hfq (.inr (by omega)) (Keeps.drewN _ _ _)⟩
                  have := hq.out
                  simp [Hid]; omega
                case measure => simp [intOf]; omega
            · obtain rfl : j = 0 := by omega
              have hd : decide ((0 : Int) < 0) = false := decide_eq_false (by omega)
              go_wp2
              go_quiet (fail)
              go_wp2
              go_roundw
              case rel =>
                refine ⟨f + 1, _, by go_num, by omega, by omega, ?_, J.insert (Keeps.alloc _ _ _) L hfq (.inl rfl) (Keeps.drewN _ _ _)⟩
                have := hq.out
                simp [Hid]; omega
              case measure => simp [intOf]; omega
        · obtain rfl : f = r.length := by omega
          have dc := cell_of_one J.cell
          have df := free_of_one J.cell
          have hne := row_ne J.row J.cell
          go_wp2
          go_end0
          have eq := hq.out
          have P2 : Ph2 r q q.length := by rw [eq]; exact J.ph
          have K : Keeps (fun k => k = D) wy (wy.setCell ⟨D, 0, none⟩ (.slice (some ⟨g', 0, none⟩) (List.length r) cap')) := Keeps.set1 _ _ _ _
          refine ⟨rfl, q, g', cap', IsMerge.of P1 P2, K.row J.row hne, J.place, ?_, J.keep.andThen K (fun _ _ h => .inr h)⟩
          rw [eq]
          exact one_setCell J.cell
end Go.Proofs.Qxb6626217a
