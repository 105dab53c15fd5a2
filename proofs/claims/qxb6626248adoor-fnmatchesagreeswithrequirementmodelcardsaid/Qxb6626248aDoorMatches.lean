import Derived.Test.Qxb6626248aDoorCount
namespace Go.Proofs.Qxb6626248aDoor
open Go.ChangeShapes Go.WideShapes Go.ChangeAt Go.RowKit
set_option linter.unusedVariables false
set_option linter.unusedSimpArgs false

theorem key_inj {qs : List Req} (hn : (keysOf qs).Nodup) {q q' : Req} (hq' : q' ∈ qs) (hq : q ∈ qs) (e : q'.key = q.key) : q' = q := by
  induction qs with
  | nil => simp at hq
  | cons x r ih =>
    simp only [keysOf, List.map_cons, List.nodup_cons] at hn
    rcases List.mem_cons.1 hq' with rfl | h1
    · rcases List.mem_cons.1 hq with h2 | h2
      · exact h2.symm
      · exact absurd (by rw [e]; exact List.mem_map_of_mem (f := (·.key)) h2) hn.1
    · rcases List.mem_cons.1 hq with rfl | h2
      · exact absurd (by rw [← e]; exact List.mem_map_of_mem (f := (·.key)) h1) hn.1
      · exact ih hn.2 h1 h2

set_option maxRecDepth 100000 in
set_option maxHeartbeats 4000000 in
theorem matches1 (base b : Nat) (f lf : Ents) (qs : List Req) (n : Int) (pv : Option Nat) (w : World) (M : SMap w b f) (SL : Sel w base f qs) (hnd : (keysOf qs).Nodup) (hv : MapV w (.map pv) lf) (hs : StrMap lf) (G : Globs w) (hge : f.length ≤ lf.length) :
    Calls Tryd.prog 8 #[.agg #[.map (some b), .int .i64 n], .map pv] w fun e w' => e = .returned (.bool (allMeet qs lf)) ∧ Below w.heap.size w w' := by
  have B0 : ∀ o, Below w.heap.size w (w.alloc o) := fun o => (Below.refl _ _).alloc (Nat.le_refl _) _
  have MV : ∀ o, MapV (w.alloc o) (.map (some b)) f := fun o => MapV.below (.inr ⟨_, rfl, M⟩) (B0 o)
  have LV : ∀ o, MapV (w.alloc o) (.map pv) lf := fun o => hv.below (B0 o)
  have hge2 : (f.length : Int) ≤ (lf.length : Int) := by omega
  go_enter Tryd.func8, Tryd.ntmps8
  go_wp2_with (first | (at_len; refine wpList_mapLen _ rfl (.tmp 14) 31 rfl 9 9 Tryd.underlying31 (.map pv) lf rfl (LV _) ?_) | (at_len; refine wpList_mapLen _ rfl (.tmp 17) 26 rfl 9 43 Tryd.underlying26 (.map (some b)) f rfl (MV _) ?_) | (at_range; refine wpList_mapRange _ rfl (.tmp 21) 26 rfl 9 43 Tryd.underlying26 (.map (some b)) f rfl (MV _) ?_; intro w1 I1 B1; go_frame))
  obtain ⟨W, hW⟩ : ∃ x, x = w.alloc (.cells #[.map (some b), .int .i64 n] 28) := ⟨_, rfl⟩
  have BW : Below w.heap.size w W := by subst hW; exact B0 _
  rw [← hW] at I1 B1 ⊢
  have SW := SL.below BW
  have LW := hv.below BW
  have GW := G.below BW
  have sW := BW.size
  clear hW MV LV B0 SL hv G M
  go_loopg [5] f.length (fun c _ wr => ∃ vis rem, rem.length = c ∧ Hid (f.Perm (vis ++ rem)) ∧ Iter wr W.heap.size (.map (some b)) f rem ∧ Hid (∀ p ∈ vis, ∀ q ∈ qs, q.key = p.1 → meets q (lookS lf q.key) = true) ∧ Below W.heap.size W wr)
  case atStart => exact ⟨[], f, rfl, List.Perm.refl _, I1, (fun p hp => by simp at hp), B1⟩
  case round =>
    clear I1 B1
    obtain ⟨vis, rem, hrl, PM, I, V, B⟩ := hrel
    have sB := B.size
    go_wp2_with (at_next; refine wpList_mapNext _ rfl _ rfl W.heap.size (.map (some b)) f rem rfl I ?_ ?_)
    · intro h0
      subst h0
      go_wp2
      go_ret
      refine ⟨ret_bool ?_, below_step BW sW B⟩
      symm
      refine allMeet_true (fun q hq => ?_)
      obtain ⟨p, hp, e, _⟩ := SW.mem' hq
      exact V.out p (by have := PM.out.mem_iff.1 hp; simpa using this) q hq e.symm
    · intro s u rem' w2 hp hi hk hen
      have B2 : Below W.heap.size W w2 := B.trans (hk.below sB (fun k h => by omega))
      have pf := visit_mem PM.out hp
      obtain ⟨q, hq, e, BQ, mp, mpe, fa, fe, e2, RQ⟩ := (SW.below B2).mem pf
      simp only at e e2
      subst e e2
      have PM2 := hide (visit_step PM.out hp)
      have rl2 : rem'.length < rem.length := by have := hp.length_eq; simp at this; omega
      clear hp hk PM pf I B
      have L2 := LW.below B2
      cases hl : lookS lf q.key with
      | none =>
        have HL : Hid ((lookS lf q.key).getD ByteArray.empty = ByteArray.empty ∧ (lookS lf q.key).isSome = false) := by rw [hl]; exact ⟨rfl, rfl⟩
        have HLR := hide hl
        clear hl
        go_wp2_with (at_lookup; refine wpList_look_str _ rfl _ _ 31 rfl 9 9 Tryd.underlying31 Tryd.underlying9 (zeroS _) (.map pv) lf rfl L2 hs q.key rfl ByteArray.empty false HL.out ?_)
        refine (matches_none w2 base BQ q mp mpe fa fe ByteArray.empty RQ).mono ?_
        rintro e3 w3 ⟨rfl, hw3⟩
        subst w3
        have B3 := B2
        have I3 := hi
        clear hi hen L2 RQ B2
        cases hr : meets q none with
        | false =>
          have HF : Hid (allMeet qs lf = false) := allMeet_false hq (by rw [HLR.out]; exact hr)
          clear hr
          go_wp2
          go_ret
          exact ⟨ret_bool HF.out.symm, below_step BW sW B3⟩
        | true =>
          have HT := hide hr
          clear hr
          go_wp2
          go_roundg rem'.length
          case measure => omega
          case rel =>
            refine ⟨_, rem', rfl, PM2, I3, ?_, B3⟩
            intro p hp q' hq' e
            rcases List.mem_cons.1 hp with rfl | hp2
            · have : q' = q := key_inj hnd hq' hq e
              rw [this, HLR.out]; exact HT.out
            · exact V.out p hp2 q' hq' e
      | some t =>
        have HL : Hid ((lookS lf q.key).getD ByteArray.empty = t ∧ (lookS lf q.key).isSome = true) := by rw [hl]; exact ⟨rfl, rfl⟩
        have HLR := hide hl
        have tsz : t.size ≤ 281474976710656 := by
          rcases hs.cases q.key with ⟨_, h2⟩ | ⟨t', _, h2, h3⟩
          · rw [h2] at hl; cases hl
          · rw [h2] at hl; cases hl; exact h3
        clear hl
        go_wp2_with (at_lookup; refine wpList_look_str _ rfl _ _ 31 rfl 9 9 Tryd.underlying31 Tryd.underlying9 (zeroS _) (.map pv) lf rfl L2 hs q.key rfl t true HL.out ?_)
        refine (matches_some w2 base BQ q mp mpe fa fe t RQ tsz (GW.below B2)).mono ?_
        rintro e3 w3 ⟨rfl, B3q⟩
        have B3 := below_step B2 (by have := B2.size; omega) B3q
        have I3 := hi.below B3q
        clear B3q
        clear hi hen L2 RQ B2
        cases hr : meets q (some t) with
        | false =>
          have HF : Hid (allMeet qs lf = false) := allMeet_false hq (by rw [HLR.out]; exact hr)
          clear hr
          go_wp2
          go_ret
          exact ⟨ret_bool HF.out.symm, below_step BW sW B3⟩
        | true =>
          have HT := hide hr
          clear hr
          go_wp2
          go_roundg rem'.length
          case measure => omega
          case rel =>
            refine ⟨_, rem', rfl, PM2, I3, ?_, B3⟩
            intro p hp q' hq' e
            rcases List.mem_cons.1 hp with rfl | hp2
            · have : q' = q := key_inj hnd hq' hq e
              rw [this, HLR.out]; exact HT.out
            · exact V.out p hp2 q' hq' e


theorem needs_true {qs : List Req} (hn : (keysOf qs).Nodup) {q : Req} (hq : q ∈ qs) : needs qs q.key = q.pres := by
  unfold needs
  rw [Bool.eq_iff_iff, List.any_eq_true]
  constructor
  · rintro ⟨q', hq', h⟩
    simp only [Bool.and_eq_true, decide_eq_true_eq] at h
    rw [← key_inj hn hq' hq h.1]
    exact h.2
  · intro h
    exact ⟨q, hq, by simp [h]⟩
theorem needs_none {qs : List Req} {s : ByteArray} (h : s ∉ keysOf qs) : needs qs s = false := by
  unfold needs
  rw [Bool.eq_false_iff]
  intro ha
  rw [List.any_eq_true] at ha
  obtain ⟨q, hq, h2⟩ := ha
  simp only [Bool.and_eq_true, decide_eq_true_eq] at h2
  exact h (by rw [← h2.1]; exact List.mem_map_of_mem (f := (·.key)) hq)
def cntN (qs : List Req) (vis : Ents) : Nat := (vis.filter (fun p => needs qs p.1)).length
theorem cntN_cons (qs : List Req) (p : ByteArray × Value) (vis : Ents) : cntN qs (p :: vis) = cntN qs vis + if needs qs p.1 = true then 1 else 0 := by
  unfold cntN
  by_cases h : needs qs p.1 = true <;> simp [List.filter_cons, h]
theorem cntN_le (qs : List Req) (vis : Ents) : cntN qs vis ≤ vis.length := List.length_filter_le _ _

set_option maxRecDepth 100000 in
set_option maxHeartbeats 4000000 in
theorem matches2 (base b : Nat) (f lf : Ents) (qs : List Req) (pv : Option Nat) (w : World) (M : SMap w b f) (SL : Sel w base f qs) (hnd : (keysOf qs).Nodup) (hv : MapV w (.map pv) lf) (hs : StrMap lf) (G : Globs w) (hlt : lf.length < f.length) (hfl : f.length ≤ 9223372036854775807) :
    Calls Tryd.prog 8 #[.agg #[.map (some b), .int .i64 (nPres qs)], .map pv] w fun e w' => e = .returned (.bool (allMeet qs lf)) ∧ Below w.heap.size w w' := by
  have B0 : ∀ o, Below w.heap.size w (w.alloc o) := fun o => (Below.refl _ _).alloc (Nat.le_refl _) _
  have MV : ∀ o, MapV (w.alloc o) (.map (some b)) f := fun o => MapV.below (.inr ⟨_, rfl, M⟩) (B0 o)
  have LV : ∀ o, MapV (w.alloc o) (.map pv) lf := fun o => hv.below (B0 o)
  have hlt2 : (lf.length : Int) < (f.length : Int) := by omega
  have hdd : decide (f.length ≤ lf.length) = false := decide_eq_false (by omega)
  go_enter Tryd.func8, Tryd.ntmps8
  go_wp2_with (first | (at_len; refine wpList_mapLen _ rfl (.tmp 14) 31 rfl 9 9 Tryd.underlying31 (.map pv) lf rfl (LV _) ?_) | (at_len; refine wpList_mapLen _ rfl (.tmp 17) 26 rfl 9 43 Tryd.underlying26 (.map (some b)) f rfl (MV _) ?_) | (at_range; refine wpList_mapRange _ rfl (.tmp 39) 31 rfl 9 9 Tryd.underlying31 (.map pv) lf rfl (LV _) ?_; intro w1 I1 B1; go_frame))
  obtain ⟨W, hW⟩ : ∃ x, x = w.alloc (.cells #[.map (some b), .int .i64 (nPres qs)] 28) := ⟨_, rfl⟩
  have BW : Below w.heap.size w W := by subst hW; exact B0 _
  have XW : W.heap[w.heap.size]? = some (.cells #[.map (some b), .int .i64 (nPres qs)] 28 (0, 0)) := by subst hW; exact heap_alloc_new w _
  rw [← hW] at I1 B1 ⊢
  have SW := SL.below BW
  have LW := hv.below BW
  have GW := G.below BW
  have MW := M.same (BW.block _ M.lt)
  have sW := BW.size
  have hln := hv.nodup
  clear hW MV LV B0 SL hv G M
  go_loopg [9] lf.length (fun c x wr => ∃ vis rem, rem.length = c ∧ x = .int .i64 (cntN qs vis) ∧ Hid (lf.Perm (vis ++ rem)) ∧ Iter wr W.heap.size (.map pv) lf rem ∧ Hid (∀ p ∈ vis, ∀ q ∈ qs, q.key = p.1 → meets q (lookS lf q.key) = true) ∧ Below W.heap.size W wr)
  case atStart => exact ⟨[], lf, rfl, rfl, List.Perm.refl _, I1, (fun p hp => by simp at hp), B1⟩
  case round =>
    clear I1 B1
    obtain ⟨vis, rem, hrl, rfl, PM, I, V, B⟩ := hrel
    have sB := B.size
    have cn := cntN_le qs vis
    have vl : vis.length ≤ lf.length := by have := PM.out.length_eq; simp at this; omega
    have XB := (B.block _ (lt_of_block XW)).trans XW
    go_wp2_with (at_next; refine wpList_mapNext _ rfl _ rfl W.heap.size (.map pv) lf rem rfl I ?_ ?_)
    · intro h0
      subst h0
      have t1 := cell_at XB 1 rfl
      have RES : Hid (((cntN qs vis : Int) == (nPres qs : Int)) = allMeet qs lf) := by
        have hp2 : lf.Perm vis := by simpa using PM.out
        have hc : cntN qs vis = (lf.filter (fun p => needs qs p.1)).length := (hp2.filter _).length_eq.symm
        have := count_all hnd hln hs (fun q hq t ht => by
          have hk : q.key ∈ keys lf := (lookS_some hs).1 (by rw [ht]; rfl)
          unfold keys at hk
          rw [List.mem_map] at hk
          obtain ⟨p, hp, e⟩ := hk
          have := V.out p (hp2.mem_iff.1 hp) q hq e.symm
          rw [ht] at this
          exact this)
        show _ = _
        rw [← this, ← hc]
        by_cases h : cntN qs vis = nPres qs
        · simp [h]
        · have h' : (cntN qs vis : Int) ≠ (nPres qs : Int) := by omega
          rw [beq_eq_false_iff_ne.2 h', decide_eq_false h]
      clear XB
      go_wp2
      go_ret
      exact ⟨ret_bool RES.out, below_step BW sW B⟩
    · intro s u rem' w2 hp hi hk hen
      have B2 : Below W.heap.size W w2 := B.trans (hk.below sB (fun k h => by omega))
      have pf := visit_mem PM.out hp
      have PM2 := hide (visit_step PM.out hp)
      have rl2 : rem'.length < rem.length := by have := hp.length_eq; simp at this; omega
      have vl2 : vis.length + 1 ≤ lf.length := by have := PM.out.length_eq; simp at this; omega
      clear hp hk PM I B XB
      have XB := (B2.block _ (lt_of_block XW)).trans XW
      have t0 := cell_at XB 0 rfl
      have M2 := MW.same (B2.block _ MW.lt)
      have hu := (look_mem hln).2 pf
      obtain ⟨t, rfl, tsz⟩ := hs s u hu
      have HLR : Hid (lookS lf s = some t) := by simp [Hid, lookS, hu]
      have HU := hide hu
      clear hu
      cases hin : look f s with
      | none =>
        have hnk : Hid (s ∉ keysOf qs) := by
          show s ∉ keysOf qs
          rw [← SW.keys]; exact look_none.1 hin
        have HI := hide hin
        clear hin
        go_wp2_with (at_lookup; refine wpList_look_ok _ rfl _ _ 26 rfl 9 43 Tryd.underlying26 Tryd.underlying9 (.pointer none) (zero43 _) (.map (some b)) f rfl (.inr ⟨_, rfl, M2⟩) s rfl ?_; rw [HI.out])
        go_roundg rem'.length
        case measure => omega
        case rel =>
          refine ⟨_, rem', rfl, ?_, PM2, hi, ?_, B2⟩
          · rw [cntN_cons, needs_none hnk.out]; rfl
          · intro p hp q' hq' e
            rcases List.mem_cons.1 hp with rfl | hp2
            · have e' : q'.key = s := e
              exact absurd (by rw [← e']; exact List.mem_map_of_mem (f := (·.key)) hq') hnk.out
            · exact V.out p hp2 q' hq' e
      | some uq =>
        obtain ⟨q, hq, e, BQ, mp, mpe, fa, fe, e2, RQ⟩ := (SW.below B2).mem ((look_mem M2.1).1 hin)
        simp only at e e2
        subst e e2
        have HI := hide hin
        clear hin
        go_wp2_with (at_lookup; refine wpList_look_ok _ rfl _ _ 26 rfl 9 43 Tryd.underlying26 Tryd.underlying9 (.pointer none) (zero43 _) (.map (some b)) f rfl (.inr ⟨_, rfl, M2⟩) q.key rfl ?_; rw [HI.out])
        refine (matches_some w2 base BQ q mp mpe fa fe t RQ tsz (GW.below B2)).mono ?_
        rintro e3 w3 ⟨rfl, B3q⟩
        have B3 := below_step B2 (by have := B2.size; omega) B3q
        have I3 := hi.below B3q
        have R3 := RQ.below B3q
        have p2 := cell_at R3.blk 2 (v := .bool q.pres) rfl
        clear B3q hi hen RQ B2 t0 XB M2 R3
        cases hr : meets q (some t) with
        | false =>
          have HF : Hid (allMeet qs lf = false) := allMeet_false hq (by rw [HLR.out]; exact hr)
          clear hr
          go_wp2
          go_ret
          exact ⟨ret_bool HF.out.symm, below_step BW sW B3⟩
        | true =>
          have HT := hide hr
          clear hr
          have fin : Hid (∀ p ∈ ((q.key, Value.string t) :: vis), ∀ q' ∈ qs, q'.key = p.1 → meets q' (lookS lf q'.key) = true) := by
            intro p hp q' hq' e
            rcases List.mem_cons.1 hp with rfl | hp2
            · have : q' = q := key_inj hnd hq' hq e
              rw [this, HLR.out]; exact HT.out
            · exact V.out p hp2 q' hq' e
          have CN := hide (cntN_cons qs (q.key, .string t) vis)
          have NT := hide (needs_true hnd hq)
          cases hpr : q.pres with
          | true =>
            rw [hpr] at p2
            have HP := hide hpr
            clear hpr
            go_wp2
            go_roundg rem'.length
            case measure => omega
            case rel =>
              refine ⟨_, rem', rfl, ?_, PM2, I3, fin, B3⟩
              rw [CN.out, NT.out, HP.out]; go_num
          | false =>
            rw [hpr] at p2
            have HP := hide hpr
            clear hpr
            go_wp2
            go_roundg rem'.length
            case measure => omega
            case rel =>
              refine ⟨_, rem', rfl, ?_, PM2, I3, fin, B3⟩
              rw [CN.out, NT.out, HP.out]; rfl

theorem matches_any (base b : Nat) (f lf : Ents) (qs : List Req) (pv : Option Nat) (w : World) (M : SMap w b f) (SL : Sel w base f qs) (hnd : (keysOf qs).Nodup) (hv : MapV w (.map pv) lf) (hs : StrMap lf) (G : Globs w) (hfl : f.length ≤ 9223372036854775807) :
    Calls Tryd.prog 8 #[.agg #[.map (some b), .int .i64 (nPres qs)], .map pv] w fun e w' => e = .returned (.bool (allMeet qs lf)) ∧ Below w.heap.size w w' := by
  by_cases h : f.length ≤ lf.length
  · exact matches1 base b f lf qs _ pv w M SL hnd hv hs G h
  · exact matches2 base b f lf qs pv w M SL hnd hv hs G (by omega) hfl
end Go.Proofs.Qxb6626248aDoor
