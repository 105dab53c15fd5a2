import Derived.Test.Qxb6626248aDoorLaw1
namespace Go.Proofs.Qxb6626248aDoor
open Go.ChangeShapes Go.WideShapes Go.ChangeAt Go.RowKit
open Go.ChangeMaps (setBlock)
set_option linter.unusedVariables false
set_option linter.unusedSimpArgs false

theorem eql31 (p : Option Nat) (w : World) : (binOp .eql 31 (.map p) (.map none)).run Tryd.prog w = .ok (.bool p.isNone) w := by
  simp only [binOp]
  simp [run_equal_map_nil w 31 9 9 p Tryd.underlying31]

theorem firsts_sub {rs : List Req} {q : Req} (h : q ∈ firsts rs) : q ∈ rs := by
  have gen : ∀ (rs qs : List Req), q ∈ rs.foldl addFirst qs → q ∈ qs ∨ q ∈ rs := by
    intro rs
    induction rs with
    | nil => intro qs h; exact .inl h
    | cons x r ih =>
      intro qs h
      rcases ih _ h with h2 | h2
      · unfold addFirst at h2
        split at h2
        · exact .inl h2
        · rcases List.mem_append.1 h2 with h3 | h3
          · exact .inl h3
          · simp at h3; exact .inr (by simp [h3])
      · exact .inr (List.mem_cons_of_mem _ h2)
  rcases gen rs [] h with h2 | h2
  · simp at h2
  · exact h2

theorem allMeet_congr {qs : List Req} {f g : Ents} (h : ∀ q ∈ qs, lookS f q.key = lookS g q.key) : allMeet qs f = allMeet qs g := by
  unfold allMeet
  rw [Bool.eq_iff_iff, List.all_eq_true, List.all_eq_true]
  constructor
  · intro h2 q hq; rw [← h q hq]; exact h2 q hq
  · intro h2 q hq; rw [h q hq]; exact h2 q hq

theorem keys_step {rs : List Req} {g : Ents} {k : Nat} (hk : k < rs.length) (h : ∀ s, (look g s).isSome = hasS (keysOf (rs.take k)) s) : ∀ s, (look (put g (rqA rs k).key (.bool true)) s).isSome = hasS (keysOf (rs.take (k + 1))) s := by
  intro s
  rw [isSome_put, h s, req_take rs k hk, keysOf_snoc, hasS_snoc, Bool.or_comm]

theorem lookS_put (f : Ents) (k t s : ByteArray) (h : k ≠ s) : lookS (put f k (.string t)) s = lookS f s := by
  unfold lookS
  rw [look_put, if_neg h]

/-- one more label into the grown map, in whatever block it lies -/
theorem put_lab (W : World) (b : Nat) (f : Ents) (M : SMap W b f) (key val : ByteArray) :
    ∃ W2, (Instr.mapUpdate 31 (.map (some b)) (.string key) (.string val)).run Tryd.prog W.drew = .ok () W2 ∧ SMap W2 b (put f key (.string val)) ∧ Keeps (fun k => k = b) W W2 := by
  obtain ⟨ob, hrun, M2⟩ := SMap.update (P := Tryd.prog) (w := W.drew) (M.same rfl) Tryd.underlying31 Tryd.underlying9 key (.string val)
  exact ⟨_, hrun, M2, (Keeps.drew _ _).trans (Keeps.set _ _ _)⟩

/-- the head of a round of the loop over extra -/
structure GInv (W3 : World) (rs : List Req) (l : Labels) (pv : Option Nat) (g : Ents) (wr : World) : Prop where
  map : MapV wr (.map pv) g
  low : ∀ k, pv = some k → W3.heap.size ≤ k
  str : StrMap g
  same : ∀ s, hasS (keysOf rs) s = true → lookS g s = lookS (labMap l) s
  bel : Below W3.heap.size W3 wr

theorem GInv.step {W3 : World} {rs : List Req} {l : Labels} {pv : Option Nat} {g : Ents} {wr : World} (I : GInv W3 rs l pv g wr) {key val : ByteArray} (hn : hasS (keysOf rs) key = false) (hv : val.size ≤ 1048576) {b : Nat} {V W2 : World} (hb : W3.heap.size ≤ b) (BV : Below W3.heap.size W3 V) (M2 : SMap W2 b (put g key (.string val))) (K : Keeps (fun k => k = b) V W2) : GInv W3 rs l (some b) (put g key (.string val)) W2 where
  map := .inr ⟨b, rfl, M2⟩
  low := fun k hk => by simp at hk; omega
  str := I.str.put _ _ (by omega)
  same := fun s hs => by
    rw [lookS_put _ _ _ _ (fun e => by rw [e, hs] at hn; cases hn)]
    exact I.same s hs
  bel := BV.trans (K.below BV.size (fun k h => by omega))

set_option maxRecDepth 100000 in
set_option maxHeartbeats 4000000 in
theorem law2 (a : Option Addr) (c : Nat) (rs : List Req) (a1 : Option Addr) (c1 : Nat) (l : Labels) (a2 : Option Addr) (c2 : Nat) (l2 : Labels) (w : World) (hl : rs.length ≤ 9223372036854775807) (hl1 : l.length ≤ 9223372036854775807) (hl2 : l2.length ≤ 9223372036854775807) (h : Reqs w a rs) (h1 : Labs w a1 l) (h2 : Labs w a2 l2) (G : Globs w) :
    Calls Tryd.prog 4 #[.slice a rs.length c, .slice a1 l.length c1, .slice a2 l2.length c2] w fun e w' => e = .returned (.bool true) ∧ Below w.heap.size w w' := by
  have hmm := @run_makeMap Tryd.prog
  go_enter Tryd.func4, Tryd.ntmps4
  go_wp2_with fail
  refine (bytes2_any a c rs a1 c1 l a2 c2 l2 w hl hl1 hl2 h h1 h2).mono ?_
  rintro e w' ⟨⟨b, rfl⟩, hw⟩
  subst w'
  cases b with
  | false =>
    go_wp2
    go_ret
    exact ⟨rfl, Below.refl _ _⟩
  | true =>
    go_wp2_with fail
    refine (over_any a c rs a1 c1 l a2 c2 l2 w hl hl1 hl2 h h1 h2).mono ?_
    rintro e w' ⟨hr, hw⟩
    subst w'
    rcases hr with rfl | ⟨rfl, hv, hv2⟩
    · go_wp2
      go_ret
      exact ⟨rfl, Below.refl _ _⟩
    · have hs := labMap_str l (fun i hi => by have := hv i hi; omega)
      have HV2 := hide hv2
      clear hv hv2
      go_wp2_with fail
      refine (build_any a c rs w hl h).mono ?_
      rintro e w1 ⟨f, rfl, M, SL, B1⟩
      have hfl : f.length ≤ 9223372036854775807 := by rw [SL.1]; have := firsts_le rs; omega
      have s1 := B1.size
      go_wp2_with fail
      obtain ⟨w2, hw2⟩ : ∃ x, x = w1.alloc (.cells #[.map (some (w.heap.size + 1)), .int .i64 (nPres (firsts rs))] 28) := ⟨_, rfl⟩
      have B2 : Below w1.heap.size w1 w2 := by subst hw2; exact (Below.refl _ _).alloc (Nat.le_refl _) _
      have X2 : w2.heap[w1.heap.size]? = some (.cells #[.map (some (w.heap.size + 1)), .int .i64 (nPres (firsts rs))] 28 (0, 0)) := by subst hw2; exact heap_alloc_new w1 _
      have z2 : Hid (w2.heap.size = w1.heap.size + 1) := by subst hw2; simp [Hid]
      rw [← hw2]
      have B2' := below_step B1 s1 B2
      have M2 := M.same (B2.block _ M.lt)
      have SL2 := SL.below B2
      clear hw2 M SL B1 B2
      go_loopw [9] (fun i wr => ∃ (k : Nat) (g : Ents), k ≤ rs.length ∧ i = .int .i64 k ∧ SMap wr (w1.heap.size + 1) g ∧ Trues g ∧ Hid (∀ s, (look g s).isSome = hasS (keysOf (rs.take k)) s) ∧ Below w2.heap.size w2 wr) (fun i _ => rs.length - (intOf i).toNat)
      case atStart => exact ⟨0, [], Nat.zero_le _, rfl, z2.out ▸ SMap.made w2, Trues.nil, (fun s => rfl), (Below.refl _ _).alloc (Nat.le_refl _) _⟩
      case round =>
        obtain ⟨k, g, hk, rfl, MG, TG, SG, BG⟩ := hrel
        have sG := BG.size
        have s2 := B2'.size
        have BG' := below_step B2' s2 BG
        by_cases hkl : k < rs.length
        · obtain ⟨b, off, rfl, hc⟩ := (h.below BG').get (by omega)
          have d0 := (hc k hkl).c0
          clear hc
          have zz := z2.out
          have ZZ := hide zz
          clear zz
          go_wp2_with (at_mapUpdate; refine wpList_mapPut _ rfl _ _ _ 34 rfl 9 4 Tryd.underlying34 Tryd.underlying9 (w1.heap.size + 1) g rfl MG (rqA rs k).key rfl (.bool true) rfl ?_; intro w3 M3 K3; go_frame)
          go_roundw
          case rel => exact ⟨k + 1, _, by omega, by go_num, M3, TG.put _, keys_step hkl SG.out, BG.trans (K3.below (by omega) (fun k h => by have := ZZ.out; omega))⟩
          case measure => simp [intOf]; omega
        · have SN : Hid (∀ s, (look g s).isSome = hasS (keysOf rs) s) := by have := SG.out; rw [List.take_of_length_le (by omega)] at this; exact this
          have X3 := (BG.block _ (lt_of_block X2)).trans X2
          have M3 := M2.same (BG.block _ M2.lt)
          have SL3 := SL2.below BG
          go_wp2_with fail
          clear X2 M2 SL2 BG SG hkl hk
          obtain ⟨w3, hw3⟩ : ∃ x, x = wr := ⟨_, rfl⟩
          subst hw3
          refine (labelMap_v a1 c1 l w3 hl1 (h1.below BG')).mono ?_
          rintro e w4 ⟨pvB, rfl, MB, B4, _⟩
          have s4 := B4.size
          have B4' := below_step BG' (by omega) B4
          have X4 := (B4.block _ (lt_of_block X3)).trans X3
          have M4 := M3.same (B4.block _ M3.lt)
          have SL4 := SL3.below B4
          have MG4 := MG.same (B4.block _ MG.lt)
          clear X3 M3 SL3 MG B4
          go_wp2_with fail
          refine (labelMap_v a1 c1 l w4 hl1 (h1.below B4')).mono ?_
          rintro e w5 ⟨pvG, rfl, MGr, B5, lowG⟩
          go_wp2
          go_loopw [11, 12] (fun x i wr => ∃ (k : Nat) (pv : Option Nat) (gr : Ents), k ≤ l2.length ∧ i = .int .i64 k ∧ x = .map pv ∧ GInv w4 rs l pv gr wr) (fun _ i _ => l2.length - (intOf i).toNat)
          case atStart => exact ⟨0, pvG, labMap l, Nat.zero_le _, rfl, rfl, ⟨MGr, lowG, hs, fun _ _ => rfl, B5⟩⟩
          case round =>
            clear MGr B5 lowG
            obtain ⟨k, pv, gr, hk, rfl, rfl, I⟩ := hrel
            obtain ⟨V, hV⟩ : ∃ x, x = wr := ⟨_, rfl⟩
            subst hV
            have sI := I.bel.size
            have s4' := B4'.size
            have BV' := below_step B4' s4' I.bel
            have MGV := MG4.same (I.bel.block _ MG4.lt)
            by_cases hkl : k < l2.length
            · obtain ⟨b, off, rfl, hc⟩ := (h2.below BV').get (by omega)
              have d0 := (hc k hkl).1
              have d1 := (hc k hkl).2
              clear hc
              cases hin : (look g (lkA l2 k)).isSome with
              | true =>
                have HI := hide hin
                clear hin
                go_wp2_with (at_lookup; refine wpList_look_bool _ rfl _ _ 34 rfl 9 4 Tryd.underlying34 Tryd.underlying9 (zeroB _) (.map (some (w1.heap.size + 1))) g rfl (.inr ⟨_, rfl, MGV⟩) TG (lkA l2 k) rfl true HI.out ?_)
                go_roundw
                case rel => exact ⟨k + 1, pv, gr, by omega, by go_num, rfl, I⟩
                case measure => simp [intOf]; omega
              | false =>
                have HI := hide hin
                have HN : Hid (hasS (keysOf rs) (lkA l2 k) = false) := by have := SN.out (lkA l2 k); rw [hin] at this; exact this.symm
                have hvk := HV2.out k hkl
                clear hin
                cases pv with
                | none =>
                  have hq := eql31 none
                  have hgr : gr = [] := by
                    rcases I.map with ⟨_, e⟩ | ⟨b', e, _⟩
                    · exact e
                    · cases e
                  obtain ⟨W2, hrun, N2, K2⟩ := put_lab (V.alloc (.map #[] 0)) V.heap.size [] (SMap.made V) (lkA l2 k) (lvA l2 k)
                  have J := I.step HN.out hvk (b := V.heap.size) (W2 := W2) (by omega) (I.bel.alloc (by omega) (.map #[] 0)) (by rw [hgr]; exact N2) K2
                  have cd0 : (V.alloc (.map #[] 0)).cell? ⟨b, off + k * 2, none⟩ = some (.string (lkA l2 k)) := cell_below ((Below.refl _ _).alloc (Nat.le_refl _) _) d0
                  have cd1 : (V.alloc (.map #[] 0)).cell? ⟨b, off + k * 2 + 1, none⟩ = some (.string (lvA l2 k)) := cell_below ((Below.refl _ _).alloc (Nat.le_refl _) _) d1
                  clear N2 K2 hgr hvk
                  go_wp2_with (at_lookup; refine wpList_look_bool _ rfl _ _ 34 rfl 9 4 Tryd.underlying34 Tryd.underlying9 (zeroB _) (.map (some (w1.heap.size + 1))) g rfl (.inr ⟨_, rfl, MGV⟩) TG (lkA l2 k) rfl false HI.out ?_)
                  obtain ⟨V2, hV2⟩ : ∃ x, x = V.alloc (.map #[] 0) := ⟨_, rfl⟩
                  rw [← hV2] at hrun cd0 cd1 ⊢
                  clear hV2 d0 d1
                  go_region
                  all_goals go_wp2
                  go_roundw
                  case rel => exact ⟨k + 1, _, _, by omega, by go_num, rfl, J⟩
                  case measure => simp [intOf]; omega
                | some gb =>
                  have hq := eql31 (some gb)
                  have NM : SMap V gb gr := by
                    rcases I.map with ⟨e, _⟩ | ⟨b', e, N⟩
                    · cases e
                    · cases e; exact N
                  obtain ⟨W2, hrun, N2, K2⟩ := put_lab V gb gr NM (lkA l2 k) (lvA l2 k)
                  have J := I.step HN.out hvk (b := gb) (W2 := W2) (I.low gb rfl) I.bel N2 K2
                  clear N2 K2 NM hvk
                  go_wp2_with (at_lookup; refine wpList_look_bool _ rfl _ _ 34 rfl 9 4 Tryd.underlying34 Tryd.underlying9 (zeroB _) (.map (some (w1.heap.size + 1))) g rfl (.inr ⟨_, rfl, MGV⟩) TG (lkA l2 k) rfl false HI.out ?_)
                  go_region
                  all_goals go_wp2
                  go_roundw
                  case rel => exact ⟨k + 1, _, _, by omega, by go_num, rfl, J⟩
                  case measure => simp [intOf]; omega
            · have X5 := (I.bel.block _ (lt_of_block X4)).trans X4
              have M5 := M4.same (I.bel.block _ M4.lt)
              have SL5 := SL4.below I.bel
              have MB5 := MB.below I.bel
              have G5 := G.below BV'
              have hnd := firsts_nodup rs
              have e0 := cell_at X5 0 rfl
              have e1 := cell_at X5 1 rfl
              go_wp2_with fail
              refine (matches_any (w.heap.size + 2) (w.heap.size + 1) f (labMap l) (firsts rs) pvB V M5 SL5 hnd MB5 hs G5 hfl).mono ?_
              rintro e w6 ⟨rfl, B6⟩
              have B6' := below_step BV' (by omega) B6
              have X6 := (B6.block _ (lt_of_block X5)).trans X5
              have M6 := M5.same (B6.block _ M5.lt)
              have SL6 := SL5.below B6
              have MG6 := I.map.below B6
              have G6 := G5.below B6
              clear e0 e1 X5 M5 SL5 MB5 G5
              have e0 := cell_at X6 0 rfl
              have e1 := cell_at X6 1 rfl
              go_wp2_with fail
              have MM := matches_any (w.heap.size + 2) (w.heap.size + 1) f gr (firsts rs) pv w6 M6 SL6 hnd MG6 I.str G6 hfl
              rw [allMeet_congr (g := labMap l) (fun q hq => I.same q.key ((hasS_iff _ _).2 (List.mem_map_of_mem (f := (·.key)) (firsts_sub hq))))] at MM
              refine MM.mono ?_
              rintro e w7 ⟨rfl, B7⟩
              have B7' := below_step B6' (by have := B6'.size; omega) B7
              clear e0 e1
              go_wp2_with fail
              refine (labelMap_v a1 c1 l w7 hl1 (h1.below B7')).mono ?_
              rintro e w8 ⟨pv8, rfl, MV8, B8, _⟩
              have B8' := below_step B7' (by have := B7'.size; omega) B8
              go_wp2_with fail
              have MA := model_any a c rs (.map pv8) (labMap l) w8 hl (h.below B8') MV8 hs
              rw [selects_eq] at MA
              refine MA.mono ?_
              rintro e w9 ⟨rfl, B9⟩
              have B9' := below_step B8' (by have := B8'.size; omega) B9
              generalize allMeet (firsts rs) (labMap l) = r
              cases r with
              | true =>
                go_wp2
                go_ret
                exact ⟨rfl, B9'⟩
              | false =>
                go_wp2
                go_ret
                exact ⟨rfl, B9'⟩
end Go.Proofs.Qxb6626248aDoor
