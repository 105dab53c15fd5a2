import Derived.Test.Qxb6626345aRun
namespace Go.Proofs.Qxb6626345a
open Go.ChangeShapes Go.WideShapes Go.ChangeAt Go.RowKit
set_option linter.unusedVariables false
set_option linter.unusedSimpArgs false

structure Chain (l : List Int) (p n : Nat) (r : List Int) : Prop where
  len : hop l p n = p + r.length
  fits : r.length = 0 ∨ p + r.length ≤ l.length
  same : ∀ j, j < r.length → at0 r j = at0 l (p + j)
theorem Chain.start (l : List Int) (p : Nat) : Chain l p 0 [] := ⟨rfl, .inl rfl, fun j hj => by simp at hj⟩
theorem Chain.step {l : List Int} {p n : Nat} {r : List Int} (h : Chain l p n r) {r2 : List Int} (hs : wd l (p + r.length) ≠ ⟨#[]⟩) (hl : r2.length = r.length + (wd l (p + r.length)).size) (hr : ∀ j, j < r2.length → at0 r2 j = at0 l (p + j)) : Chain l p (n + 1) r2 := by
  have hf := wd_fits hs
  refine ⟨?_, .inr (by omega), hr⟩
  show hop l p n + (wd l (hop l p n)).size = _
  rw [h.len, hl]; omega
/-- the state of the run -/
structure Inv (w wr : World) (S G : Nat) (r0 : Option Addr) (l : List Int) (x : Int) (r : List Int) : Prop where
  scan : Scan wr S r0 l.length l.length x
  got : GRow wr w.heap.size G l.length r
  dat : Dat wr w.heap.size S r0 l
  bel : Below w.heap.size w wr
theorem Inv.lit {w wr w' : World} {S G : Nat} {r0 : Option Addr} {l r : List Int} {x y : Int} (h : Inv w wr S G r0 l x r) (hX : Scan w' S r0 l.length l.length y) (hk : Kept1 S wr w') (hS : w.heap.size ≤ S) (hG : S < G) : Inv w w' S G r0 l y r :=
  ⟨hX, h.got.same (hk.block _ (by omega) h.got.block.2), h.dat.kept hk (Nat.le_refl _), h.bel.trans (hk.below hS h.bel.size)⟩
theorem Inv.app {w wr w' : World} {S G : Nat} {r0 : Option Addr} {l r r2 : List Int} {x : Int} (h : Inv w wr S G r0 l x r) (hg : GRow w' w.heap.size G l.length r2) (hk : Kept1 G wr w') (hS : w.heap.size ≤ S) (hG : S < G) : Inv w w' S G r0 l x r2 :=
  ⟨(hk.block _ (by omega) h.scan.lt).trans h.scan, hg, h.dat.kept hk (by omega), h.bel.trans (hk.below (by omega) h.bel.size)⟩
theorem Inv.below {w wr w' : World} {S G : Nat} {r0 : Option Addr} {l r : List Int} {x : Int} (h : Inv w wr S G r0 l x r) (hb : Below wr.heap.size wr w') : Inv w w' S G r0 l x r :=
  ⟨h.scan.below hb, h.got.below hb, h.dat.kept (k := S) ⟨hb.os, hb.tape, hb.output, hb.size, fun k _ hk => hb.block k hk⟩ (Nat.le_refl _), below_step h.bel h.bel.size hb⟩
theorem Inv.drewN {w wr : World} {S G : Nat} {r0 : Option Addr} {l r : List Int} {x : Int} (h : Inv w wr S G r0 l x r) (n : Nat) : Inv w (wr.drewN n) S G r0 l x r := h.below (below_drewN (Below.refl _ _) n)

theorem one_cell (w : World) (v : Value) (e : TypeId) : ∀ j u, [v][j]? = some u → (w.alloc (.cells #[v] e)).cell? ((⟨w.heap.size, 0, none⟩ : Addr).add j) = some u := by
  intro j u hj
  match j, hj with
  | 0, hj => simp at hj; subst hj; simp [Addr.add]

set_option maxHeartbeats 4000000 in
set_option maxRecDepth 100000 in
theorem lawB (a0 : Option Addr) (c0 : Nat) (l : List Int) (x : Int) (w : World) (h0 : Byts w a0 l)
    (z0 : Hid (a0 = none → c0 = 0 ∧ l = [])) (B0 : Hid (IsB l)) (m0 : l.length ≤ 9223372036854775807) :
    Calls Try.prog 4 #[.slice a0 l.length c0, .int .i64 x] w fun e w' => e = .returned (.bool true) ∧ Below w.heap.size w w' := by
  obtain ⟨i0, hi, hz⟩ := Option.map_eq_some_iff.1 info5
  simp only [Prod.mk.injEq] at hz
  obtain ⟨hz0, hz1, hz2⟩ := hz
  go_enter Try.func4, Try.ntmps4
  go_wp2_with fail
  refine (bytes4_any a0 l.length c0 x w m0).mono ?_
  rintro e w' ⟨⟨r, rfl, hr⟩, hw⟩
  subst w'
  cases r with
  | false =>
    go_wp2
    go_ret
    exact ⟨rfl, Below.refl _ _⟩
  | true =>
    have g0 := hr rfl
    clear hr m0
    by_cases g2 : 0 ≤ x ∧ x ≤ 1048576
    case neg =>
      by_cases g3 : x < 0
      · go_wp2
        go_ret
        exact ⟨rfl, Below.refl _ _⟩
      · go_wp2
        go_ret
        exact ⟨rfl, Below.refl _ _⟩
    obtain ⟨p, rfl⟩ : ∃ p : Nat, x = p := ⟨x.toNat, by omega⟩
    have hp : p ≤ 1048576 := by omega
    clear g2
    go_wp2_with fail
    refine (clone_any w a0 c0 l h0 (unhide z0) (by omega)).mono ?_
    rintro e w1 ⟨⟨r0, rfl, C1⟩, K1⟩
    have s1 := K1.size
    clear h0 z0
    go_wp2_with (at_make; refine wpList_make_own _ rfl _ _ 22 rfl w.heap.size 5 i0 (.int .u8 0) 1 Try.underlying22 hi hz0 hz1 .i64 .i64 _ l.length rfl rfl rfl (by rw [hz2]; omega) (by unfold maxLen; omega) (by simp; omega) ?_; intro w3 hown hgrow)
    obtain ⟨w2, hw2⟩ : ∃ x, x = w1.alloc (.cells #[.slice r0 l.length l.length, .int .i64 (p : Int)] 28) := ⟨_, rfl⟩
    have e2 : w2.heap.size = w1.heap.size + 1 := by subst hw2; simp
    rw [← hw2] at hgrow hown
    rw [e2] at hown
    have B2 : Below w1.heap.size w1 w2 := by subst hw2; exact (Below.refl _ _).alloc (Nat.le_refl _) _
    have X2 : Scan w2 w1.heap.size r0 l.length l.length p := by subst hw2; exact heap_alloc_new w1 _
    have B3 : Below w2.heap.size w2 w3 := (Below.refl _ _).grown hgrow (Nat.le_refl _) (fun _ h => by cases h)
    have s2 := X2.lt
    have I3 : Inv w w3 w1.heap.size (w1.heap.size + 1) r0 l p [] :=
      ⟨X2.below B3, hown, Dat.of C1 (B2.trans (B3.mono (by omega))), K1.trans ((B2.mono s1).trans (B3.mono (by omega)))⟩
    clear hown hgrow hw2 B2 X2 B3 C1 K1 e2 s2
    obtain ⟨S, hS⟩ : ∃ x, x = w1.heap.size := ⟨_, rfl⟩
    rw [← hS] at I3 s1 ⊢
    clear hS
    go_loopw [6] (fun gv wr => ∃ (n : Nat) (r : List Int), gv = .slice (some ⟨S + 1, 0, none⟩) r.length l.length ∧ Hid (Chain l p n r) ∧ Inv w wr S (S + 1) r0 l ((p : Int) + (r.length : Int)) r) (fun gv _ => l.length - lenOf gv)
    case atStart => exact ⟨0, [], rfl, hide (Chain.start l p), I3⟩
    case round =>
      clear I3
      obtain ⟨n, r, rfl, C, I⟩ := hrel
      obtain ⟨wa, hwa⟩ : ∃ x, x = wr := ⟨_, rfl⟩
      subst hwa
      have hfit := (unhide C).fits
      have rl : r.length ≤ 1048576 := by omega
      have d1 := I.scan.c1
      by_cases hw : wd l (p + r.length) = ⟨#[]⟩
      · have W := hide hw
        go_wp2_with fail
        refine (lit_scan wa S w.heap.size r0 l.length l (p + r.length) _ ((p : Int) + (r.length : Int)) (by omega) (by rw [hw]; exact (by simp [show (⟨#[]⟩ : ByteArray).size = 0 from rfl])) I.scan I.dat.cloned (by omega) (Nat.le_refl _) (by omega) (unhide B0)).mono ?_
        rintro e wb ⟨rfl, X, K⟩
        rw [unhide W, okOf_nil]
        have J := I.lit X K s1 (by omega)
        clear I d1 X K hw
        have d1 := J.scan.c1
        go_wp2
        go_loopw [11] (fun ev wq => ∃ m nn : Nat, ev = .int .i64 (hop l p m : Int) ∧ (hop l p m = p ∨ hop l p m ≤ l.length) ∧ wq = wb.drewN nn) (fun ev _ => l.length - (intOf ev).toNat)
        case atStart => exact ⟨0, 0, rfl, .inl rfl, rfl⟩
        case round =>
          obtain ⟨m, nn, rfl, hb, rfl⟩ := hrel
          by_cases hle : hop l p m ≤ l.length
          · obtain ⟨e, he⟩ : ∃ e, e = hop l p m := ⟨_, rfl⟩
            have E := hide he
            rw [← he] at hle hb ⊢
            clear he
            go_wp2_with fail
            refine (wordAt (wb.drewN nn) r0 l.length l e (J.dat.cloned.byts.drewN _) (by omega) (by omega)).mono ?_
            rintro e' wx ⟨rfl, n2, hwx⟩
            subst wx
            by_cases hx : wd l e = ⟨#[]⟩
            · have hee : e = p + r.length := by
                rw [unhide E] at hx ⊢
                have cl := (unhide C).len
                rw [← cl]
                exact hop_same hx (by rw [cl]; exact unhide W)
              rw [hx]
              clear hx hb E
              subst hee
              go_wp2_with fail
              obtain ⟨wc, hwc⟩ : ∃ x, x = wb.drewN (nn + n2) := ⟨_, rfl⟩
              have Jc : Inv w wc S (S + 1) r0 l ((p : Int) + (r.length : Int)) r := by subst hwc; exact J.drewN _
              rw [← hwc]
              clear hwc J
              have d2 := Jc.scan.c1
              go_wp2
              go_loopw [13] (fun iv wq => ∃ k n : Nat, k ≤ r.length ∧ iv = .int .i64 (k : Int) ∧ wq = wc.drewN n) (fun iv _ => r.length - (intOf iv).toNat)
              case atStart => exact ⟨0, 0, Nat.zero_le _, rfl, rfl⟩
              case round =>
                obtain ⟨k, nn, hk, rfl, rfl⟩ := hrel
                by_cases hkr : k < r.length
                · obtain ⟨b, off, rfl, hc⟩ := Jc.dat.cloned.byts.get (by omega)
                  have q0 := hc (p + k) (by omega)
                  have q1 := Jc.got.cell hkr
                  rw [(unhide C).same k hkr] at q1
                  clear hc
                  go_wp2
                  go_quiet (fail)
                  go_wp2
                  go_roundw
                  case rel => exact ⟨k + 1, _, by omega, by go_num, by first | rfl | exact drewN_drewN _ _ _⟩
                  case measure => simp [intOf]; omega
                · go_wp2
                  go_ret
                  exact ⟨rfl, below_drewN Jc.bel _⟩
            · have F := wd_fits hx
              have hs5 := wd_size l e
              obtain ⟨s, hs⟩ : ∃ x, x = wd l e := ⟨_, rfl⟩
              have hse : s.toList.isEmpty = false := by
                have := okOf_yes hx
                rw [okOf_e, ← hs] at this
                simpa using this
              have E2 := hide hs
              rw [← hs] at F hs5 ⊢
              clear hs hx
              go_wp2
              go_roundw
              case rel =>
                refine ⟨m + 1, _, ?_, ?_, rfl⟩
                · show _ = Value.int .i64 ((hop l p m + (wd l (hop l p m)).size : Nat) : Int)
                  rw [← unhide E, ← unhide E2]
                  go_num
                · right
                  show hop l p m + (wd l (hop l p m)).size ≤ l.length
                  rw [← unhide E, ← unhide E2]
                  omega
              case measure => simp [intOf]; omega
          · have hee : hop l p m = p + r.length := by
              have cl := (unhide C).len
              rw [← cl]
              exact hop_same (wd_out (by omega)) (by rw [cl]; exact unhide W)
            rw [hee] at hle hb ⊢
            clear hee
            go_wp2_with fail
            obtain ⟨wc, hwc⟩ : ∃ x, x = wb.drewN nn := ⟨_, rfl⟩
            have Jc : Inv w wc S (S + 1) r0 l ((p : Int) + (r.length : Int)) r := by subst hwc; exact J.drewN _
            rw [← hwc]
            clear hwc J
            have d2 := Jc.scan.c1
            go_wp2
            go_loopw [13] (fun iv wq => ∃ k n : Nat, k ≤ r.length ∧ iv = .int .i64 (k : Int) ∧ wq = wc.drewN n) (fun iv _ => r.length - (intOf iv).toNat)
            case atStart => exact ⟨0, 0, Nat.zero_le _, rfl, rfl⟩
            case round =>
              obtain ⟨k, nn, hk, rfl, rfl⟩ := hrel
              by_cases hkr : k < r.length
              · obtain ⟨b, off, rfl, hc⟩ := Jc.dat.cloned.byts.get (by omega)
                have q0 := hc (p + k) (by omega)
                have q1 := Jc.got.cell hkr
                rw [(unhide C).same k hkr] at q1
                clear hc
                go_wp2
                go_quiet (fail)
                go_wp2
                go_roundw
                case rel => exact ⟨k + 1, _, by omega, by go_num, by first | rfl | exact drewN_drewN _ _ _⟩
                case measure => simp [intOf]; omega
              · go_wp2
                go_ret
                exact ⟨rfl, below_drewN Jc.bel _⟩
      · have F := wd_fits hw
        have Wd := hide (wd_isWd hw)
        have By := hide (fun k => wd_byte (l := l) (p := p + r.length) k)
        have NE := hide hw
        have hs5 := wd_size l (p + r.length)
        obtain ⟨s, hs⟩ : ∃ x, x = wd l (p + r.length) := ⟨_, rfl⟩
        have E2 := hide hs
        have L := lit_scan wa S w.heap.size r0 l.length l (p + r.length) _ ((p : Int) + (r.length : Int) + (s.size : Int)) (by omega) (by rw [hs]; omega) I.scan I.dat.cloned (by omega) (Nat.le_refl _) (by omega) (unhide B0)
        rw [okOf_yes hw] at L
        rw [← hs] at L F Wd By hs5
        clear hs hw
        go_wp2_with fail
        refine L.mono ?_
        clear L
        rintro e wb ⟨rfl, X, K⟩
        have J := I.lit X K s1 (by omega)
        clear I d1 X K
        have d1 := J.scan.c1
        go_wp2_with fail
        refine (isWord_any s wb (unhide Wd)).mono ?_
        rintro e wb' ⟨rfl, hwb⟩
        subst wb'
        go_wp2
        go_loopw [6, 10] (fun gv kv wq => ∃ (k : Nat) (r2 : List Int), k ≤ s.size ∧ kv = .int .i64 (k : Int) ∧ gv = .slice (some ⟨S + 1, 0, none⟩) r2.length l.length ∧ Hid (r2.length = r.length + k) ∧ Hid (∀ j, j < r2.length → at0 r2 j = at0 l (p + j)) ∧ Inv w wq S (S + 1) r0 l ((p : Int) + (r.length : Int) + (s.size : Int)) r2) (fun gv kv _ => s.size - (intOf kv).toNat)
        case atStart => exact ⟨0, r, Nat.zero_le _, rfl, rfl, hide rfl, hide (unhide C).same, J⟩
        case round =>
          clear J d1
          obtain ⟨k, r2, hk, rfl, rfl, hr2, A, I2⟩ := hrel
          by_cases hks : k < s.size
          · have by_ := unhide By k hks
            go_wp2_with (at_builtin; refine wpList_append_fits _ rfl _ _ 22 rfl w.heap.size 5 i0 1 Try.underlying22 hi hz1 (S + 1) r2.length l.length (r2.map (Value.int .u8)) rfl ?own ⟨wr.heap.size, 0, none⟩ 1 1 [.int .u8 (at0 l (p + r.length + k))] rfl rfl ?c1 ?c2 ?c3 ?_)
            case own => exact (I2.below ((Below.refl _ _).alloc (Nat.le_refl _) _)).got
            case c1 => exact one_cell _ _ _
            case c2 => intro u hu; simp at hu; subst hu; rfl
            case c3 => have := unhide hr2; omega
            intro wn hrow hgrow
            have hlen : (r2 ++ [at0 l (p + r.length + k)]).length = r2.length + 1 := by simp
            have G2 : GRow wn w.heap.size (S + 1) l.length (r2 ++ [at0 l (p + r.length + k)]) := by
              unfold GRow
              rw [hlen, List.map_append]
              exact hrow
            have I4 := I2.app G2 ((Kept1.alloc _ _).trans (Kept1.grown hgrow)) s1 (by omega)
            have A2 : Hid (∀ j, j < (r2 ++ [at0 l (p + r.length + k)]).length → at0 (r2 ++ [at0 l (p + r.length + k)]) j = at0 l (p + j)) := hide (fun j hj => by
              rw [hlen] at hj
              by_cases hj2 : j < r2.length
              · rw [at0_append_left hj2]; exact unhide A j hj2
              · obtain rfl : j = r2.length := by omega
                have := at0_append_right (a := r2) (b := [at0 l (p + r.length + k)]) (i := 0)
                rw [Nat.add_zero] at this
                rw [this, unhide hr2, ← Nat.add_assoc]
                rfl)
            clear hrow hgrow G2 I2 A
            obtain ⟨r3, hr3⟩ : ∃ x, x = r2 ++ [at0 l (p + r.length + k)] := ⟨_, rfl⟩
            rw [← hr3] at hlen I4 A2
            rw [← hlen]
            clear hr3
            go_wp2
            go_roundw
            case rel => exact ⟨k + 1, r3, by omega, by go_num, rfl, hide (by have := unhide hr2; omega), A2, I4⟩
            case measure => simp [intOf]; omega
          · obtain rfl : k = s.size := by omega
            have C2 : Hid (Chain l p (n + 1) r2) := hide ((unhide C).step (unhide NE) (by rw [← unhide E2]; exact unhide hr2) (unhide A))
            have hr2' := unhide hr2
            have I5 : Inv w wr S (S + 1) r0 l ((p : Int) + (r2.length : Int)) r2 := by
              rw [show ((p : Int) + (r2.length : Int)) = (p : Int) + (r.length : Int) + (s.size : Int) by omega]
              exact I2
            clear I2 A
            go_wp2
            go_roundw
            case rel => exact ⟨n + 1, r2, rfl, C2, I5⟩
            case measure => simp [lenOf]; omega
end Go.Proofs.Qxb6626345a
