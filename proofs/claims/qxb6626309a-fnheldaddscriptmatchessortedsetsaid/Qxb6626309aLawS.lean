import Derived.Test.Qxb6626309aCov
import Derived.Test.Qxb6626309aAddK3
import Derived.Test.Qxb6626309aOpen
namespace Go.Proofs.Qxb6626309a
open Go.ChangeShapes Go.WideShapes Go.ChangeAt Go.RowKit
set_option linter.unusedVariables false
set_option linter.unusedSimpArgs false

theorem Hd.c1 {w : World} {H : Nat} {v : Value} (h : Hd w H v) : w.cell? ⟨H, 1, none⟩ = some (.pointer none) := by simp [World.cell?, show w.heap[H]? = _ from h]
theorem Hd.c2 {w : World} {H : Nat} {v : Value} (h : Hd w H v) : w.cell? ⟨H, 2, none⟩ = some (.bool false) := by simp [World.cell?, show w.heap[H]? = _ from h]
theorem givenUp_any (w : World) (H : Nat) (v : Value) (h : Hd w H v) : Calls Try.prog 11 #[.pointer (some ⟨H, 0, none⟩)] w fun e w' => e = .returned (.pointer none) ∧ w' = w := by
  have d := h.c1
  go_enter Try.func11, Try.ntmps11
  go_wp2
  go_ret
  exact ⟨rfl, rfl⟩
theorem cut_any (w : World) (H : Nat) (v : Value) (h : Hd w H v) : Calls Try.prog 12 #[.pointer (some ⟨H, 0, none⟩)] w fun e w' => e = .returned (.bool false) ∧ w' = w := by
  have d := h.c2
  go_enter Try.func12, Try.ntmps12
  go_wp2
  go_ret
  exact ⟨rfl, rfl⟩

theorem cell_same {w w' : World} {b : Nat} (h : w'.heap[b]? = w.heap[b]?) (o : Nat) : w'.cell? ⟨b, o, none⟩ = w.cell? ⟨b, o, none⟩ := by simp [World.cell?, h]
theorem MdS.t26 {w w' : World} {a : Option Addr} {m : IdL} (h : MdS w a m) (t : T26 w w') : MdS w' a m := by
  rcases h with h | ⟨g, cur, rfl, hg, h⟩
  · exact .inl h
  · have e := t g cur (0, 0) hg
    refine .inr ⟨g, cur, rfl, e.trans hg, ?_⟩
    rcases h with h | ⟨b, off, e1, hc⟩
    · exact .inl h
    · simp only [Option.some.injEq, Addr.mk.injEq, and_true] at e1
      obtain ⟨rfl, rfl⟩ := e1
      exact .inr ⟨g, 0, rfl, fun i hi => ⟨(cell_same e _).trans (hc i hi).1, (cell_same e _).trans (hc i hi).2⟩⟩
theorem MdS.below {w w' : World} {a : Option Addr} {m : IdL} (h : MdS w a m) (hb : Below w.heap.size w w') : MdS w' a m := h.t26 (T26.of_below hb)

set_option maxHeartbeats 8000000 in
set_option maxRecDepth 100000 in
theorem lawS (a0 : Option Addr) (c0 : Nat) (l : IdL) (w : World) (h0 : Ids w a0 l) (U0 : Hid (InU l)) (m0 : l.length ≤ 9223372036854775807) :
    Calls Try.prog 3 #[.slice a0 l.length c0] w fun e w' => e = .returned (.bool true) ∧ Below w.heap.size w w' := by
  go_enter Try.func3, Try.ntmps3
  go_wp2_with fail
  refine (bytes1_any a0 l.length c0 w m0).mono ?_
  rintro e w' ⟨⟨r, rfl, hr⟩, hw⟩
  subst w'
  cases r with
  | false =>
    go_wp2
    go_ret
    exact ⟨rfl, Below.refl _ _⟩
  | true =>
    clear hr
    by_cases g0 : l.length ≤ 4096
    case neg =>
      go_wp2
      go_ret
      exact ⟨rfl, Below.refl _ _⟩
    clear m0
    go_wp2
    go_loopw [3] (fun kv wr => ∃ k : Nat, k ≤ l.length ∧ kv = .int .i64 (k : Int) ∧ Hid (∀ j, j < k → nA l j ≠ 0) ∧ w = wr) (fun kv _ => l.length - (intOf kv).toNat)
    case atStart => exact ⟨0, Nat.zero_le _, rfl, hide (fun j hj => by omega), rfl⟩
    case round =>
      obtain ⟨k, hk, rfl, A, rfl⟩ := hrel
      by_cases hkl : k < l.length
      · obtain ⟨b, off, rfl, hcc⟩ := h0.get (by omega)
        obtain ⟨q0, q1⟩ := hcc k hkl
        by_cases hz : nA l k = 0
        · have e1 : (nA l k == 0) = true := by simpa using hz
          go_wp2
          go_ret
          exact ⟨rfl, Below.refl _ _⟩
        · have e1 : (nA l k == 0) = false := by simpa using hz
          go_wp2
          go_roundw
          case rel => exact ⟨k + 1, by omega, by go_num, hide (fun j hj => by
            by_cases hjk : j = k
            · subst hjk; exact hz
            · exact unhide A j (by omega)), by first | trivial | rfl⟩
          case measure => simp [intOf]; omega
      · obtain rfl : k = l.length := by omega
        have NZ := A
        clear A hk hkl
        go_wp2
        obtain ⟨wb, hwb⟩ : ∃ x, x = w.alloc (.cells #[.slice none 0 0, .pointer none, .bool false] 31) := ⟨_, rfl⟩
        have Bb : Below w.heap.size w wb := by subst hwb; exact (Below.refl _ _).alloc (Nat.le_refl _) _
        have szb : wb.heap.size = w.heap.size + 1 := by subst hwb; simp
        have Hb : Held wb (w.heap.size + 1) w.heap.size [] := ⟨⟨_, by subst hwb; exact heap_alloc_new w _, .inl ⟨rfl, rfl⟩⟩, by omega, by omega, Good.nil, by simp⟩
        rw [← hwb]
        clear hwb
        obtain ⟨H, hH⟩ : ∃ x, x = w.heap.size := ⟨_, rfl⟩
        have sa : w.heap.size ≤ H := by omega
        rw [← hH] at Hb szb ⊢
        clear hH szb
        go_loopw [5, 6] (fun mv kv wr => ∃ (k : Nat) (lst : List Rg) (md : IdL) (am : Option Addr) (cm : Nat), k ≤ l.length ∧ kv = .int .i64 (k : Int) ∧ mv = .slice am md.length cm ∧ Held wr (H + 1) H lst ∧ lst.length ≤ k ∧ md.length ≤ k ∧ MdS wr am md ∧ Hid (Srt md) ∧ Hid (∀ a b, Mem lst a b ↔ (a, b) ∈ md) ∧ Below w.heap.size w wr) (fun mv kv _ => l.length - (intOf kv).toNat)
        case atStart => exact ⟨0, [], [], none, 0, Nat.zero_le _, rfl, rfl, Hb, by simp, by simp, .inl rfl, hide Srt.nil, hide (fun a b => by simp [not_mem_nil]), Bb⟩
        case round =>
          clear Hb Bb
          obtain ⟨k, lst, md, am, cm, hk, rfl, rfl, HH, ll, lm, MD, SR, MM, B⟩ := hrel
          obtain ⟨wc, hwc⟩ : ∃ x, x = wr := ⟨_, rfl⟩
          subst hwc
          by_cases hkl : k < l.length
          · have h0a := h0.below B
            obtain ⟨b, off, rfl, hcc⟩ := h0a.get (by omega)
            obtain ⟨q0, q1⟩ := hcc k hkl
            have nz := unhide NZ k hkl
            have ur := unhide U0 k hkl
            obtain ⟨sv, hsv⟩ : ∃ x, x = iA l k := ⟨_, rfl⟩
            obtain ⟨nv, hnv⟩ : ∃ x, x = nA l k := ⟨_, rfl⟩
            rw [← hsv] at q0
            rw [← hnv] at q1 nz ur
            have nv1 : 1 ≤ nv := by omega
            have nv2 : nv ≤ 18446744073709551615 := ur.2
            have CK : Hid (∀ W, Below w.heap.size w W → W.cell? ⟨b, off + k * 2, none⟩ = some (.int .i64 sv) ∧ W.cell? ⟨b, off + k * 2 + 1, none⟩ = some (.int .u64 nv)) := hide (fun W hW => by
              obtain ⟨b', off', e', hc'⟩ := (h0.below hW).get (by omega)
              simp only [Option.some.injEq, Addr.mk.injEq, and_true] at e'
              obtain ⟨rfl, rfl⟩ := e'
              rw [hsv, hnv]
              exact hc' k hkl)
            clear hsv hnv hcc nz ur h0a
            have sc := B.size
            go_wp2_with fail
            refine (find_any wc am cm md sv nv MD.ids SR (by omega)).mono ?_
            rintro e w2 ⟨⟨i, fb, rfl, FA⟩, B2⟩
            have q0 := cell_below B2 q0
            have q1 := cell_below B2 q1
            have H2 := HH.below B2
            have MD2 := MD.below B2
            have Bw2 := below_step B sc B2
            have il := (unhide FA).le
            have FM := hide (unhide FA).mem
            clear HH MD B B2 sc
            have ADD := hide (fun W (hW : Held W (H + 1) H lst) => add_any2 W (H + 1) H lst sv nv hW (by omega) nv1 nv2)
            go_wp2_with fail
            go_region_with ((go_at_call 7; refine (unhide ADD _ (H2.below ((Below.refl _ _).drew))).mono ?_; rintro e w3 ⟨got, rfl, hg, lst', H3, hl3, hm3, B3⟩))
            all_goals
              have Bw3 : Below w.heap.size w w3 := Bw2.drew.trans (B3.below.mono sa)
              have MD3 := MD2.t26 ((T26.of_below ((Below.refl _ _).drew)).trans B3.t26)
              clear MD2 H2 Bw2 q0 q1
              cases fb with
              | true =>
                have mem := (unhide FM).1 (by first | trivial | rfl)
                obtain rfl : got = false := by
                  cases got with
                  | false => rfl
                  | true => exact absurd ((unhide MM _ _).2 mem) ((unhide hg).1 (by first | trivial | rfl))
                have FT : Hid (Fits lst' md) := hide ⟨H3.good, unhide SR, fun a b => by
                  rw [unhide hm3, unhide MM]
                  constructor
                  · rintro (h | ⟨rfl, rfl⟩)
                    · exact h
                    · exact mem
                  · exact .inl⟩
                have Mem' := hide mem
                clear mem
                obtain ⟨v, hv, rs⟩ := H3.ex
                obtain ⟨x1, y1, rfl⟩ := rs.shape
                have lenx := H3.len
                go_wp2_with fail
                refine (ranges_any w3 H _ hv).mono ?_
                rintro e wx ⟨rfl, hwx⟩
                subst wx
                go_wp2_with fail
                refine (cover_any w3 (H + 1) x1 am y1 cm lst' md rs MD3.ids FT lenx (by omega)).mono ?_
                rintro e w6 ⟨rfl, B6⟩
                have hv6 := hv.below B6
                have H6 := H3.below B6
                have MD6 := MD3.below B6
                have sx := Bw3.size
                have BB6 := below_step Bw3 sx B6
                go_wp2_with fail
                refine (givenUp_any w6 H _ hv6).mono ?_
                rintro e wx ⟨rfl, hwx⟩
                subst wx
                go_wp2_with fail
                refine (cut_any w6 H _ hv6).mono ?_
                rintro e wx ⟨rfl, hwx⟩
                subst wx
                go_wp2
                go_roundw
                case rel => exact ⟨k + 1, lst', md, am, cm, by omega, by go_num, rfl, H6, by omega, by omega, MD6, hide (unhide FT).srt, hide (unhide FT).mem, BB6⟩
                case measure => simp [intOf]; omega
              | false =>
                have nmem : ¬ (sv, nv) ∈ md := fun h => by have := (unhide FM).2 h; cases this
                obtain rfl : got = true := by
                  cases got with
                  | true => rfl
                  | false => exact absurd ((unhide hg).2 (fun h => nmem ((unhide MM _ _).1 h))) (by simp)
                have NM := hide nmem
                clear nmem
                obtain ⟨q0, q1⟩ := unhide CK w3 Bw3
                go_wp2_with fail
                refine (insert_any2 w3 am cm md i sv nv MD3.ids il (by omega)).mono ?_
                rintro e w4 ⟨⟨g, md', rfl, emd, MD4⟩, B4⟩
                have s3 := Bw3.size
                have Bw4 := below_step Bw3 s3 B4
                have H4 := H3.below B4
                have FT : Hid (Fits lst' md') := hide ⟨H4.good, by rw [unhide emd]; exact (unhide FA).srt (unhide SR), fun a b => by rw [unhide hm3, unhide MM, unhide emd, ins_mem]⟩
                have ml : Hid (md'.length = md.length + 1) := hide (by rw [unhide emd]; exact ins_length il)
                clear MD3 H3 B4 q0 q1 Bw3
                obtain ⟨v, hv, rs⟩ := H4.ex
                obtain ⟨x1, y1, rfl⟩ := rs.shape
                have lenx := H4.len
                go_wp2_with fail
                refine (ranges_any w4 H _ hv).mono ?_
                rintro e wx ⟨rfl, hwx⟩
                subst wx
                go_wp2_with fail
                refine (cover_any w4 (H + 1) x1 (some ⟨g, 0, none⟩) y1 md'.length lst' md' rs MD4.ids FT lenx (by have := unhide ml; omega)).mono ?_
                rintro e w6 ⟨rfl, B6⟩
                have hv6 := hv.below B6
                have H6 := H4.below B6
                have MD6 := MD4.below B6
                have sx := Bw4.size
                have BB6 := below_step Bw4 sx B6
                go_wp2_with fail
                refine (givenUp_any w6 H _ hv6).mono ?_
                rintro e wx ⟨rfl, hwx⟩
                subst wx
                go_wp2_with fail
                refine (cut_any w6 H _ hv6).mono ?_
                rintro e wx ⟨rfl, hwx⟩
                subst wx
                go_wp2
                go_roundw
                case rel => exact ⟨k + 1, lst', md', (some ⟨g, 0, none⟩), md'.length, by omega, by go_num, rfl, H6, by omega, by have := unhide ml; omega, MD6, hide (unhide FT).srt, hide (unhide FT).mem, BB6⟩
                case measure => simp [intOf]; omega
          · obtain rfl : k = l.length := by omega
            go_wp2
            go_ret
            exact ⟨rfl, B⟩
end Go.Proofs.Qxb6626309a
