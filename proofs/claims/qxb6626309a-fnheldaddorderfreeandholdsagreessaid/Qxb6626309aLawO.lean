import Derived.Test.Qxb6626309aOpen
namespace Go.Proofs.Qxb6626309a
open Go.ChangeShapes Go.WideShapes Go.ChangeAt Go.RowKit
set_option linter.unusedVariables false
set_option linter.unusedSimpArgs false

set_option maxHeartbeats 1000000 in
set_option maxRecDepth 100000 in
theorem lawO (a0 : Option Addr) (c0 : Nat) (l : IdL) (a1 : Option Addr) (c1 : Nat) (p : IdL) (w : World) (h0 : Ids w a0 l) (h1 : Ids w a1 p) (hc : l.length ≤ c0) (U0 : Hid (InU l))
    (m0 : l.length ≤ 9223372036854775807) (m1 : p.length ≤ 9223372036854775807) :
    Calls Try.prog 4 #[.slice a0 l.length c0, .slice a1 p.length c1] w fun e w' => e = .returned (.bool true) ∧ Below w.heap.size w w' := by
  go_enter Try.func4, Try.ntmps4
  go_wp2_with fail
  refine (bytes2_any a0 a1 l.length c0 p.length c1 w m0 m1).mono ?_
  rintro e w' ⟨⟨r, rfl, hr⟩, hw⟩
  subst w'
  cases r with
  | false =>
    go_wp2
    go_ret
    exact ⟨rfl, Below.refl _ _⟩
  | true =>
    clear hr
    by_cases g0 : l.length ≤ 4096
    case neg =>
      go_wp2
      go_ret
      exact ⟨rfl, Below.refl _ _⟩
    by_cases g1 : p.length ≤ 4096
    case neg =>
      go_wp2
      go_ret
      exact ⟨rfl, Below.refl _ _⟩
    clear m0 m1
    go_wp2
    go_loopw [5] (fun kv wr => ∃ k : Nat, k ≤ l.length ∧ kv = .int .i64 (k : Int) ∧ Hid (∀ j, j < k → nA l j ≠ 0) ∧ w = wr) (fun kv _ => l.length - (intOf kv).toNat)
    case atStart => exact ⟨0, Nat.zero_le _, rfl, hide (fun j hj => by omega), rfl⟩
    case round =>
      obtain ⟨k, hk, rfl, A, rfl⟩ := hrel
      by_cases hkl : k < l.length
      · obtain ⟨b, off, rfl, hcc⟩ := h0.get (by omega)
        obtain ⟨q0, q1⟩ := hcc k hkl
        by_cases hz : nA l k = 0
        · have e1 : (nA l k == 0) = true := by simpa using hz
          go_wp2
          go_ret
          exact ⟨rfl, Below.refl _ _⟩
        · have e1 : (nA l k == 0) = false := by simpa using hz
          go_wp2
          go_roundw
          case rel => exact ⟨k + 1, by omega, by go_num, hide (fun j hj => by
            by_cases hjk : j = k
            · subst hjk; exact hz
            · exact unhide A j (by omega)), by first | trivial | rfl⟩
          case measure => simp [intOf]; omega
      · obtain rfl : k = l.length := by omega
        have NZ := A
        clear A hk hkl
        go_wp2
        go_loopw [6, 7] (fun dv kv wr => ∃ k : Nat, k ≤ l.length ∧ kv = .int .i64 (k : Int) ∧ dv = .int .i64 (dst (l.take k) : Int) ∧ Below w.heap.size w wr) (fun dv kv _ => l.length - (intOf kv).toNat)
        case atStart => exact ⟨0, Nat.zero_le _, rfl, rfl, Below.refl _ _⟩
        case round =>
          obtain ⟨k, hk, rfl, rfl, B⟩ := hrel
          obtain ⟨wa, hwa⟩ : ∃ x, x = wr := ⟨_, rfl⟩
          subst hwa
          by_cases hkl : k < l.length
          · have h0a := h0.below B
            obtain ⟨b, off, rfl, hcc⟩ := h0a.get (by omega)
            obtain ⟨q0, q1⟩ := hcc k hkl
            have HAS := hide (fun W (hW : Ids W (some ⟨b, off, none⟩) l) => has_any W (some ⟨b, off, none⟩) c0 k l (iA l k) (nA l k) hW hk g0)
            have TK := hide (dst_take l k hkl)
            have IT := hide (isIn_take l k hk (iA l k) (nA l k))
            have DL := dst_le (l.take k)
            have DL2 : (l.take k).length ≤ 4096 := by simp; omega
            have sa := B.size
            obtain ⟨sv, hsv⟩ : ∃ x, x = iA l k := ⟨_, rfl⟩
            obtain ⟨nv, hnv⟩ : ∃ x, x = nA l k := ⟨_, rfl⟩
            rw [← hsv, ← hnv] at HAS TK IT
            rw [← hsv] at q0
            rw [← hnv] at q1
            clear hsv hnv hcc
            go_wp2
            go_region_with ((go_at_call 14; refine (unhide HAS _ (h0a.below ((Below.refl _ _).drew))).mono ?_; rintro e w3 ⟨⟨bb, rfl, hbb⟩, B3⟩))
            all_goals
              have B3' : Below w.heap.size w w3 := below_step B.drew sa B3
              cases bb with
              | false =>
                have hn : Hid ((dst (l.take (k + 1)) : Int) = (dst (l.take k) : Int) + 1) := hide (by
                  have : ¬ (sv, nv) ∈ l.take k := fun hh => by have := (unhide hbb).2 ((unhide IT).2 hh); cases this
                  rw [unhide TK, if_neg this]; omega)
                go_wp2
                go_roundw
                case rel => exact ⟨k + 1, by omega, by go_num, by rw [unhide hn], B3'⟩
                case measure => simp [intOf]; omega
              | true =>
                have hn : Hid ((dst (l.take (k + 1)) : Int) = (dst (l.take k) : Int)) := hide (by
                  have : (sv, nv) ∈ l.take k := (unhide IT).1 ((unhide hbb).1 rfl)
                  rw [unhide TK, if_pos this]; omega)
                go_wp2
                go_roundw
                case rel => exact ⟨k + 1, by omega, by go_num, by rw [unhide hn], B3'⟩
                case measure => simp [intOf]; omega
          · obtain rfl : k = l.length := by omega
            rw [List.take_length] at *
            clear hk hkl
            have DN := dst_le l
            go_wp2
            obtain ⟨wb, hwb⟩ : ∃ x, x = wa.alloc (.cells #[.slice none 0 0, .pointer none, .bool false] 31) := ⟨_, rfl⟩
            have Bab : Below wa.heap.size wa wb := by subst hwb; exact (Below.refl _ _).alloc (Nat.le_refl _) _
            have szb : wb.heap.size = wa.heap.size + 1 := by subst hwb; simp
            have Hb : Held wb (wa.heap.size + 1) wa.heap.size [] := ⟨⟨_, by subst hwb; exact heap_alloc_new wa _, .inl ⟨rfl, rfl⟩⟩, by omega, by omega, Good.nil, by simp⟩
            have sa := B.size
            have Bb := below_step B sa Bab
            rw [← hwb]
            clear hwb Bab
            obtain ⟨H, hH⟩ : ∃ x, x = wa.heap.size := ⟨_, rfl⟩
            rw [← hH] at Hb sa szb ⊢
            clear hH
            go_loopw [9, 10] (fun fv kv wr => ∃ (k : Nat) (lst : List Rg), k ≤ l.length ∧ kv = .int .i64 (k : Int) ∧ fv = .int .i64 (dst (l.take k) : Int) ∧ Held wr (H + 1) H lst ∧ lst.length ≤ k ∧ Hid (∀ a b, Mem lst a b ↔ (a, b) ∈ l.take k) ∧ Below w.heap.size w wr) (fun fv kv _ => l.length - (intOf kv).toNat)
            case atStart => exact ⟨0, [], Nat.zero_le _, rfl, rfl, Hb, by simp, hide (fun a b => by simp [not_mem_nil]), Bb⟩
            case round =>
              clear Hb Bb szb
              obtain ⟨k, lst, hk, rfl, rfl, HH, ll, MM, B2⟩ := hrel
              obtain ⟨wc, hwc⟩ : ∃ x, x = wr := ⟨_, rfl⟩
              subst hwc
              by_cases hkl : k < l.length
              · have h0a := h0.below B2
                obtain ⟨b, off, rfl, hcc⟩ := h0a.get (by omega)
                obtain ⟨q0, q1⟩ := hcc k hkl
                have nz := unhide NZ k hkl
                have ur := unhide U0 k hkl
                have ADD := hide (fun W (hW : Held W (H + 1) H lst) => add_any W (H + 1) H lst (iA l k) (nA l k) hW (by omega) (by omega) ur.2)
                have TK := hide (dst_take l k hkl)
                have TM : Hid (∀ a b, (a, b) ∈ l.take (k + 1) ↔ (a, b) ∈ l.take k ∨ (a = iA l k ∧ b = nA l k)) := hide (fun a b => by
                  rw [List.take_succ_eq_append_getElem hkl, ← idA l k hkl, List.mem_append, List.mem_singleton, Prod.mk.injEq])
                have DL := dst_le (l.take k)
                have DL2 : (l.take k).length ≤ 4096 := by simp; omega
                obtain ⟨sv, hsv⟩ : ∃ x, x = iA l k := ⟨_, rfl⟩
                obtain ⟨nv, hnv⟩ : ∃ x, x = nA l k := ⟨_, rfl⟩
                rw [← hsv, ← hnv] at ADD TK TM
                rw [← hsv] at q0
                rw [← hnv] at q1
                clear hsv hnv hcc nz ur
                go_wp2
                go_region_with ((go_at_call 7; refine (unhide ADD _ (HH.below ((Below.refl _ _).drew))).mono ?_; rintro e w3 ⟨bb, rfl, hbb, lst', H3, hl3, hm3, B3⟩))
                all_goals
                  have B3' : Below w.heap.size w w3 := B2.drew.trans (B3.mono sa)
                  have M3 : Hid (∀ a b, Mem lst' a b ↔ (a, b) ∈ l.take (k + 1)) := hide (fun a b => by rw [unhide hm3, unhide MM, unhide TM])
                  cases bb with
                  | true =>
                    have hn : Hid ((dst (l.take (k + 1)) : Int) = (dst (l.take k) : Int) + 1) := hide (by
                      have : ¬ (sv, nv) ∈ l.take k := fun hh => (unhide hbb).1 rfl ((unhide MM sv nv).2 hh)
                      rw [unhide TK, if_neg this]; omega)
                    go_wp2
                    go_roundw
                    case rel => exact ⟨k + 1, lst', by omega, by go_num, by rw [unhide hn], H3, by omega, M3, B3'⟩
                    case measure => simp [intOf]; omega
                  | false =>
                    have hn : Hid ((dst (l.take (k + 1)) : Int) = (dst (l.take k) : Int)) := hide (by
                      have : (sv, nv) ∈ l.take k := (unhide MM sv nv).1 (Classical.byContradiction fun hh => by have := (unhide hbb).2 hh; cases this)
                      rw [unhide TK, if_pos this]; omega)
                    go_wp2
                    go_roundw
                    case rel => exact ⟨k + 1, lst', by omega, by go_num, by rw [unhide hn], H3, by omega, M3, B3'⟩
                    case measure => simp [intOf]; omega
              · obtain rfl : k = l.length := by omega
                rw [List.take_length] at *
                clear hk hkl
                go_wp2
                obtain ⟨we, hwe⟩ : ∃ x, x = wc.alloc (.cells #[.slice none 0 0, .pointer none, .bool false] 31) := ⟨_, rfl⟩
                have Bce : Below wc.heap.size wc we := by subst hwe; exact (Below.refl _ _).alloc (Nat.le_refl _) _
                have sze : we.heap.size = wc.heap.size + 1 := by subst hwe; simp
                have He : Held we (wc.heap.size + 1) wc.heap.size [] := ⟨⟨_, by subst hwe; exact heap_alloc_new wc _, .inl ⟨rfl, rfl⟩⟩, by omega, by omega, Good.nil, by simp⟩
                have sc := B2.size
                have Hlt : H < wc.heap.size := Nat.lt_of_lt_of_le HH.lt HH.bs
                rw [← hwe]
                clear hwe
                obtain ⟨H2, hH2⟩ : ∃ x, x = wc.heap.size := ⟨_, rfl⟩
                have Hc := hide (fun W (hb : Below H2 wc W) => HH.below (by rw [← hH2]; exact hb))
                have Hw := hide (fun W (hb : Below H2 wc W) => below_step B2 sc (by rw [← hH2]; exact hb))
                rw [← hH2] at He Hlt sc sze Bce ⊢
                clear hH2 HH B2
                go_loopw [12, 13] (fun bv kv wr => ∃ (m : Nat) (lst2 : List Rg), m ≤ l.length ∧ kv = .int .i64 ((m : Int) - 1) ∧ bv = .int .i64 (dst (l.drop m) : Int) ∧ Held wr (H2 + 1) H2 lst2 ∧ lst2.length + m ≤ l.length ∧ Hid (∀ a b, Mem lst2 a b ↔ (a, b) ∈ l.drop m) ∧ Below H2 wc wr) (fun bv kv _ => ((intOf kv) + 1).toNat)
                case atStart => exact ⟨l.length, [], Nat.le_refl _, rfl, by simp [dst], He, by simp, hide (fun a b => by simp [not_mem_nil]), Bce⟩
                case round =>
                  clear He Bce sze
                  obtain ⟨m, lst2, hm, rfl, rfl, HH2, ll2, MM2, B4⟩ := hrel
                  obtain ⟨wf, hwf⟩ : ∃ x, x = wr := ⟨_, rfl⟩
                  subst hwf
                  have B5 := unhide Hw wf B4
                  by_cases hm0 : 0 < m
                  · obtain ⟨k, rfl⟩ : ∃ k, m = k + 1 := ⟨m - 1, by omega⟩
                    have hkl : k < l.length := by omega
                    have h0a := h0.below B5
                    obtain ⟨b, off, rfl, hcc⟩ := h0a.get (by omega)
                    obtain ⟨q0, q1⟩ := hcc k hkl
                    have nz := unhide NZ k hkl
                    have ur := unhide U0 k hkl
                    have ADD := hide (fun W (hW : Held W (H2 + 1) H2 lst2) => add_any W (H2 + 1) H2 lst2 (iA l k) (nA l k) hW (by omega) (by omega) ur.2)
                    have TK := hide (dst_drop l k hkl)
                    have TM : Hid (∀ a b, (a, b) ∈ l.drop k ↔ (a, b) ∈ l.drop (k + 1) ∨ (a = iA l k ∧ b = nA l k)) := hide (fun a b => by
                      rw [List.drop_eq_getElem_cons hkl, ← idA l k hkl, List.mem_cons, Prod.mk.injEq]
                      exact Or.comm)
                    have DL := dst_le (l.drop (k + 1))
                    have DL2 : (l.drop (k + 1)).length ≤ 4096 := by simp; omega
                    have ek : (((k + 1 : Nat) : Int) - 1) = (k : Int) := by omega
                    obtain ⟨sv, hsv⟩ : ∃ x, x = iA l k := ⟨_, rfl⟩
                    obtain ⟨nv, hnv⟩ : ∃ x, x = nA l k := ⟨_, rfl⟩
                    rw [← hsv, ← hnv] at ADD TK TM
                    rw [← hsv] at q0
                    rw [← hnv] at q1
                    rw [ek]
                    clear hsv hnv hcc nz ur
                    go_wp2
                    go_region_with ((go_at_call 7; refine (unhide ADD _ (HH2.below ((Below.refl _ _).drew))).mono ?_; rintro e w3 ⟨bb, rfl, hbb, lst', H3, hl3, hm3, B3⟩))
                    all_goals
                      have B3' : Below H2 wc w3 := B4.drew.trans B3
                      have M3 : Hid (∀ a b, Mem lst' a b ↔ (a, b) ∈ l.drop k) := hide (fun a b => by rw [unhide hm3, unhide MM2, unhide TM])
                      cases bb with
                      | true =>
                        have hn : Hid ((dst (l.drop k) : Int) = (dst (l.drop (k + 1)) : Int) + 1) := hide (by
                          have : ¬ (sv, nv) ∈ l.drop (k + 1) := fun hh => (unhide hbb).1 rfl ((unhide MM2 sv nv).2 hh)
                          rw [unhide TK, if_neg this]; omega)
                        go_wp2
                        go_roundw
                        case rel => exact ⟨k, lst', by omega, by go_num, by rw [unhide hn], H3, by omega, M3, B3'⟩
                        case measure => simp [intOf]
                      | false =>
                        have hn : Hid ((dst (l.drop k) : Int) = (dst (l.drop (k + 1)) : Int)) := hide (by
                          have : (sv, nv) ∈ l.drop (k + 1) := (unhide MM2 sv nv).1 (Classical.byContradiction fun hh => by have := (unhide hbb).2 hh; cases this)
                          rw [unhide TK, if_pos this]; omega)
                        go_wp2
                        go_roundw
                        case rel => exact ⟨k, lst', by omega, by go_num, by rw [unhide hn], H3, by omega, M3, B3'⟩
                        case measure => simp [intOf]
                  · obtain rfl : m = 0 := by omega
                    rw [List.drop_zero] at *
                    have HF := unhide Hc wf B4
                    have EQ : lst = lst2 := uniq lst lst2 HF.good HH2.good (fun a b => by rw [unhide MM, unhide MM2])
                    subst EQ
                    obtain ⟨v1, hv1, r1⟩ := HF.ex
                    obtain ⟨v2, hv2, r2⟩ := HH2.ex
                    have lenl := HF.len
                    have ek : (((0 : Nat) : Int) - 1) = -1 := by omega
                    rw [ek]
                    go_wp2_with fail
                    refine (ranges_any wf H v1 hv1).mono ?_
                    rintro e wx ⟨rfl, hwx⟩
                    subst wx
                    obtain ⟨x1, y1, rfl⟩ := r1.shape
                    go_wp2_with fail
                    refine (ranges_any wf H2 v2 hv2).mono ?_
                    rintro e wx ⟨rfl, hwx⟩
                    subst wx
                    obtain ⟨x2, y2, rfl⟩ := r2.shape
                    go_wp2_with fail
                    refine (same_any wf (H + 1) (H2 + 1) x1 x2 y1 y2 lst r1 r2 lenl).mono ?_
                    rintro e wg ⟨rfl, Bfg⟩
                    have HFg := HF.below Bfg
                    have HBg := HH2.below Bfg
                    have sf := B5.size
                    have Bg := below_step B5 sf Bfg
                    have MMl := MM
                    clear HF HH2 hv1 hv2 r1 r2 Bfg B5 B4 Hc Hw
                    go_wp2
                    go_loopw [14] (fun kv wr => ∃ k : Nat, k ≤ p.length ∧ kv = .int .i64 (k : Int) ∧ Below wg.heap.size wg wr) (fun kv _ => p.length - (intOf kv).toNat)
                    case atStart => exact ⟨0, Nat.zero_le _, rfl, Below.refl _ _⟩
                    case round =>
                      obtain ⟨k, hk, rfl, Bq⟩ := hrel
                      obtain ⟨wq, hwq⟩ : ∃ x, x = wr := ⟨_, rfl⟩
                      subst hwq
                      have sg := Bg.size
                      have Bw := below_step Bg sg Bq
                      by_cases hkp : k < p.length
                      · have h1a := h1.below Bw
                        obtain ⟨b, off, rfl, hcc⟩ := h1a.get (by omega)
                        obtain ⟨q0, q1⟩ := hcc k hkp
                        have h0a := h0.below Bw
                        have HFa := HFg.below Bq
                        have HBa := HBg.below Bq
                        obtain ⟨sv, hsv⟩ : ∃ x, x = iA p k := ⟨_, rfl⟩
                        obtain ⟨nv, hnv⟩ : ∃ x, x = nA p k := ⟨_, rfl⟩
                        rw [← hsv] at q0
                        rw [← hnv] at q1
                        have IT := hide (isIn_take l l.length (Nat.le_refl _) sv nv)
                        rw [List.take_length] at IT
                        have HAS := hide (fun W (hW : Ids W a0 l) => has_any W a0 c0 l.length l sv nv hW (Nat.le_refl _) g0)
                        have HO1 := hide (fun W (hW : Held W (H + 1) H lst) => Holds_any W (H + 1) H lst sv nv hW)
                        have HO2 := hide (fun W (hW : Held W (H2 + 1) H2 lst) => Holds_any W (H2 + 1) H2 lst sv nv hW)
                        clear hsv hnv hcc
                        go_wp2_with fail
                        refine (unhide HAS _ h0a).mono ?_
                        rintro e w3 ⟨⟨bb, rfl, hbb⟩, B3⟩
                        have HF3 := HFa.below B3
                        have HB3 := HBa.below B3
                        have q0' := cell_below B3 q0
                        have q1' := cell_below B3 q1
                        have sq := Bq.size
                        have B4 := below_step Bq sq B3
                        clear h1a h0a HFa HBa q0 q1
                        go_wp2_with fail
                        have bl : b < w3.heap.size := World.block_lt_of_cell? w3 _ q0'
                        go_region
                        go_wp2_with fail
                        obtain ⟨w4, hw4⟩ : ∃ x, x = (w3.alloc (.cells #[.int .i64 sv, .int .u64 nv] 35)).drew := ⟨_, rfl⟩
                        have B34 : Below w3.heap.size w3 w4 := by subst hw4; exact ((Below.refl _ _).alloc (Nat.le_refl _) _).drew
                        have X4 : Box2 w4 w3.heap.size sv nv := by subst hw4; exact heap_alloc_new w3 _
                        have HF4 := HF3.below B34
                        have HB4 := HB3.below B34
                        have s3 := B4.size
                        have B5 := below_step B4 s3 B34
                        rw [← hw4]
                        clear hw4 HF3 HB3 B34 q0' q1' bl
                        refine (unhide HO1 _ HF4).mono ?_
                        rintro e w5 ⟨⟨b1, rfl, hb1⟩, B45⟩
                        obtain rfl : b1 = bb := Bool.eq_iff_iff.2 ((unhide hb1).trans ((unhide MM sv nv).trans ((unhide IT).symm.trans (unhide hbb).symm)))
                        have X5 := X4.below B45
                        have HB5 := HB4.below B45
                        have x0 := X5.c0
                        have x1 := X5.c1
                        have s5 := B5.size
                        have B6 := below_step B5 s5 B45
                        clear X4 HF4 HB4 B45 B5 B4 B3
                        go_wp2_with fail
                        refine (unhide HO2 _ HB5).mono ?_
                        rintro e w6 ⟨⟨b2, rfl, hb2⟩, B56⟩
                        obtain rfl : b2 = b1 := Bool.eq_iff_iff.2 ((unhide hb2).trans ((unhide MM sv nv).trans ((unhide IT).symm.trans (unhide hbb).symm)))
                        have s6 := B6.size
                        have B7 := below_step B6 s6 B56
                        go_wp2
                        go_roundw
                        case rel => exact ⟨k + 1, by omega, by go_num, B7⟩
                        case measure => simp [intOf]; omega
                      · obtain rfl : k = p.length := by omega
                        go_wp2
                        go_ret
                        exact ⟨rfl, Bw⟩
end Go.Proofs.Qxb6626309a
