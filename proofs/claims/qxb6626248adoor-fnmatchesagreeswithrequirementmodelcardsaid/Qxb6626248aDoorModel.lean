import Derived.Test.Qxb6626248aDoorFirsts
namespace Go.Proofs.Qxb6626248aDoor
open Go.ChangeShapes Go.WideShapes Go.ChangeAt Go.RowKit
set_option linter.unusedVariables false
set_option linter.unusedSimpArgs false

theorem zeroB (w : World) : (zeroValue 4).run Tryd.prog w = .ok (.bool false) w := by kernel_rfl
theorem zeroS (w : World) : (zeroValue 9).run Tryd.prog w = .ok (.string ByteArray.empty) w := by kernel_rfl

abbrev boxCells (q : Req) : Array Value := #[.string q.key, .bool q.pres, .bool q.abst, .bool q.aset, .slice q.alA q.al.length q.alC, .slice q.exA q.ex.length q.exC, .bool q.hasLo, .int .i64 q.lo, .bool q.hasUp, .int .i64 q.up]
theorem box_kept {P : Nat → Prop} {w w2 : World} {cs : Array Value} {t : TypeId} (K : Keeps P (w.alloc (.cells cs t)) w2) (h : ¬ P w.heap.size) : w2.heap[w.heap.size]? = some (.cells cs t (0, 0)) := by
  rw [K.block _ (by simp) h]
  exact heap_alloc_new w _

set_option maxRecDepth 100000 in
set_option maxHeartbeats 2000000 in
theorem model_any (a : Option Addr) (c : Nat) (rs : List Req) (v : Value) (f : Ents) (w : World) (hl : rs.length ≤ 9223372036854775807) (h : Reqs w a rs) (hf : MapV w v f) (hs : StrMap f) :
    Calls Tryd.prog 10 #[.slice a rs.length c, v] w fun e w' => e = .returned (.bool (selects rs f)) ∧ Below w.heap.size w w' := by
  obtain ⟨p, rfl⟩ : ∃ p, v = .map p := by rcases hf with ⟨rfl, _⟩ | ⟨b, rfl, _⟩; exact ⟨_, rfl⟩; exact ⟨_, rfl⟩
  have hmm := @run_makeMap Tryd.prog
  go_enter Tryd.func10, Tryd.ntmps10
  go_wp2
  go_loopw [6] (fun i wr => ∃ (k : Nat) (g : Ents), k ≤ rs.length ∧ i = .int .i64 k ∧ SMap wr w.heap.size g ∧ Trues g ∧ Hid (∀ s, (look g s).isSome = hasS (keysOf (firsts (rs.take k))) s) ∧ Hid ((firsts (rs.take k)).all (fun q => meets q (lookS f q.key)) = true) ∧ Below w.heap.size w wr) (fun i _ => rs.length - (intOf i).toNat)
  case atStart => exact ⟨0, [], Nat.zero_le _, rfl, SMap.made w, Trues.nil, fun s => by simp [look, keysOf, firsts, hasS], by simp [Hid, firsts], (Below.refl _ _).alloc (Nat.le_refl _) _⟩
  case round =>
    obtain ⟨k, g, hk, rfl, M, T, S, A, B⟩ := hrel
    by_cases hkl : k < rs.length
    · obtain ⟨b, off, rfl, hc⟩ := h.get (by omega)
      have R0 := hc k hkl
      clear hc
      obtain ⟨q, hq⟩ : ∃ q, q = rqA rs k := ⟨_, rfl⟩
      rw [← hq] at R0
      have R := R0.below B
      have HQ := hide hq
      clear hq
      have c0 := R.c0
      have c1 := R.c1
      have c2 := R.c2
      have c3 := R.c3
      have c4 := R.c4
      have c5 := R.c5
      have c6 := R.c6
      have c7 := R.c7
      have c8 := R.c8
      have c9 := R.c9
      cases hin : (look g q.key).isSome with
      | true =>
        have HI := hide hin
        clear hin
        go_wp2_with (at_lookup; refine wpList_look_bool _ rfl _ _ 34 rfl 9 4 Tryd.underlying34 Tryd.underlying9 (zeroB _) (.map (some w.heap.size)) g rfl (.inr ⟨_, rfl, M.same (Below.heap_alloc _ _ _ M.lt)⟩) T q.key rfl true HI.out ?_)
        go_roundw
        case rel =>
          have hm : (rqA rs k).key ∈ keysOf (firsts (rs.take k)) := by
            have := S.out q.key
            rw [HI.out] at this
            rw [← HQ.out]
            exact (hasS_iff _ _).1 this.symm
          refine ⟨k + 1, g, by omega, by go_num, M.same (Below.heap_alloc _ _ _ M.lt), T, ?_, ?_, B.alloc B.size _⟩
          · rw [firsts_old hkl hm]; exact S
          · rw [firsts_old hkl hm]; exact A
        case measure => simp [intOf]; omega
      | false =>
        have HI := hide hin
        clear hin
        have hm : Hid ((rqA rs k).key ∉ keysOf (firsts (rs.take k))) := by
          intro hm
          have := S.out q.key
          rw [HI.out, HQ.out] at this
          rw [(hasS_iff _ _).2 hm] at this
          cases this
        have hB0 := B.size
        rcases hs.cases q.key with ⟨_, hl2⟩ | ⟨t, _, hl2, ht⟩
        · have HLR := hide hl2
          have HL2 : Hid ((lookS f q.key).getD ByteArray.empty = ByteArray.empty ∧ (lookS f q.key).isSome = false) := by rw [hl2]; exact ⟨rfl, rfl⟩
          clear hl2
          go_wp2_with (first | (at_lookup; refine wpList_look_bool _ rfl _ _ 34 rfl 9 4 Tryd.underlying34 Tryd.underlying9 (zeroB _) (.map (some w.heap.size)) g rfl (.inr ⟨_, rfl, M.same (Below.heap_alloc _ _ _ M.lt)⟩) T q.key rfl false HI.out ?_) | (at_mapUpdate; refine wpList_mapPut _ rfl _ _ _ 34 rfl 9 4 Tryd.underlying34 Tryd.underlying9 w.heap.size g rfl (M.same (Below.heap_alloc _ _ _ M.lt)) q.key rfl (.bool true) rfl ?_; intro w2 M2 K2; have BX := box_kept K2 (Nat.ne_of_gt M.lt); have B2 : Below w.heap.size w w2 := (B.alloc B.size _).trans (K2.below (by simp; omega) (fun k hk => by omega)); have e0 := cell_at BX 0 rfl; have e1 := cell_at BX 1 rfl; have e2 := cell_at BX 2 rfl; have e3 := cell_at BX 3 rfl; have e4 := cell_at BX 4 rfl; have e5 := cell_at BX 5 rfl; have e6 := cell_at BX 6 rfl; have e7 := cell_at BX 7 rfl; have e8 := cell_at BX 8 rfl; have e9 := cell_at BX 9 rfl; clear BX) | (at_lookup; refine wpList_look_str _ rfl _ _ 31 rfl 9 9 Tryd.underlying31 Tryd.underlying9 (zeroS _) (.map p) f rfl (hf.below B2) hs q.key rfl ByteArray.empty false HL2.out ?_))
          have MC := meets_none q ByteArray.empty w2
          rw [reqVal] at MC
          refine MC.mono ?_
          rintro e w3 ⟨rfl, B3⟩
          have s3 := K2.size
          have s3' := B3.size
          have B3' := below_step B2 (by simp at s3; omega) B3
          have M3 := M2.same (B3.block _ M2.lt)
          clear e0 e1 e2 e3 e4 e5 e6 e7 e8 e9 B2 M2 B3 MC
          cases hr : meets q none with
          | false =>
            have HF : Hid (selects rs f = false) := selects_false hkl hm.out (by rw [← HQ.out, HLR.out]; exact hr)
            clear hr
            go_wp2
            go_ret
            exact ⟨ret_bool HF.out.symm, B3'⟩
          | true =>
            have HT := hide hr
            clear hr
            go_wp2
            go_roundw
            case rel =>
              refine ⟨k + 1, put g q.key (.bool true), by omega, by go_num, M3, T.put _, ?_, ?_, B3'⟩
              · intro s
                rw [isSome_put, S.out s, firsts_new hkl hm.out, keysOf_snoc, HQ.out]
                simp [hasS, Bool.or_comm]
              · rw [firsts_new hkl hm.out]
                simp only [Hid, List.all_append, List.all_cons, List.all_nil, Bool.and_true]
                rw [A.out, ← HQ.out, HLR.out, HT.out]
                rfl
            case measure => simp [intOf]; omega
        · have HLR := hide hl2
          have HL2 : Hid ((lookS f q.key).getD ByteArray.empty = t ∧ (lookS f q.key).isSome = true) := by rw [hl2]; exact ⟨rfl, rfl⟩
          clear hl2
          go_wp2_with (first | (at_lookup; refine wpList_look_bool _ rfl _ _ 34 rfl 9 4 Tryd.underlying34 Tryd.underlying9 (zeroB _) (.map (some w.heap.size)) g rfl (.inr ⟨_, rfl, M.same (Below.heap_alloc _ _ _ M.lt)⟩) T q.key rfl false HI.out ?_) | (at_mapUpdate; refine wpList_mapPut _ rfl _ _ _ 34 rfl 9 4 Tryd.underlying34 Tryd.underlying9 w.heap.size g rfl (M.same (Below.heap_alloc _ _ _ M.lt)) q.key rfl (.bool true) rfl ?_; intro w2 M2 K2; have BX := box_kept K2 (Nat.ne_of_gt M.lt); have B2 : Below w.heap.size w w2 := (B.alloc B.size _).trans (K2.below (by simp; omega) (fun k hk => by omega)); have e0 := cell_at BX 0 rfl; have e1 := cell_at BX 1 rfl; have e2 := cell_at BX 2 rfl; have e3 := cell_at BX 3 rfl; have e4 := cell_at BX 4 rfl; have e5 := cell_at BX 5 rfl; have e6 := cell_at BX 6 rfl; have e7 := cell_at BX 7 rfl; have e8 := cell_at BX 8 rfl; have e9 := cell_at BX 9 rfl; clear BX) | (at_lookup; refine wpList_look_str _ rfl _ _ 31 rfl 9 9 Tryd.underlying31 Tryd.underlying9 (zeroS _) (.map p) f rfl (hf.below B2) hs q.key rfl t true HL2.out ?_))
          have MC := meets_some q t w2 (by omega) R.lal R.lex (R0.sal.below B2) (R0.sex.below B2)
          rw [reqVal] at MC
          refine MC.mono ?_
          rintro e w3 ⟨rfl, B3⟩
          have s3 := K2.size
          have s3' := B3.size
          have B3' := below_step B2 (by simp at s3; omega) B3
          have M3 := M2.same (B3.block _ M2.lt)
          clear e0 e1 e2 e3 e4 e5 e6 e7 e8 e9 B2 M2 B3 MC
          cases hr : meets q (some t) with
          | false =>
            have HF : Hid (selects rs f = false) := selects_false hkl hm.out (by rw [← HQ.out, HLR.out]; exact hr)
            clear hr
            go_wp2
            go_ret
            exact ⟨ret_bool HF.out.symm, B3'⟩
          | true =>
            have HT := hide hr
            clear hr
            go_wp2
            go_roundw
            case rel =>
              refine ⟨k + 1, put g q.key (.bool true), by omega, by go_num, M3, T.put _, ?_, ?_, B3'⟩
              · intro s
                rw [isSome_put, S.out s, firsts_new hkl hm.out, keysOf_snoc, HQ.out]
                simp [hasS, Bool.or_comm]
              · rw [firsts_new hkl hm.out]
                simp only [Hid, List.all_append, List.all_cons, List.all_nil, Bool.and_true]
                rw [A.out, ← HQ.out, HLR.out, HT.out]
                rfl
            case measure => simp [intOf]; omega
    · go_wp2
      go_ret
      obtain rfl : k = rs.length := by omega
      have := A.out
      rw [List.take_length] at this
      exact ⟨ret_bool (by unfold selects; exact this.symm), B⟩
end Go.Proofs.Qxb6626248aDoor
