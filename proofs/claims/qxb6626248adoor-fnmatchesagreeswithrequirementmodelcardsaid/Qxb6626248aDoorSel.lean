import Derived.Test.Qxb6626248aDoorModel
import Derived.Deep.RegionHeld3
namespace Go.Proofs.Qxb6626248aDoor
open Go.ChangeShapes Go.WideShapes Go.ChangeAt Go.RowKit
open Go.ChangeMaps (setBlock)
set_option linter.unusedVariables false
set_option linter.unusedSimpArgs false

theorem zero43 (w : World) : (zeroValue 43).run Tryd.prog w = .ok (.pointer none) w := by kernel_rfl

theorem newReq_any (p pe : Option Nat) (b1 b2 : Bool) (lo up : Int) (b3 b4 : Bool) (w : World) :
    Calls Tryd.prog 14 #[.map p, .map pe, .bool b1, .bool b2, .int .i64 lo, .int .i64 up, .bool b3, .bool b4] w fun e w' => e = .returned (.pointer (some ⟨w.heap.size, 0, none⟩)) ∧ w' = w.alloc (.cells #[.map p, .map pe, .bool b1, .bool b2, .int .i64 lo, .int .i64 up, .bool b3, .bool b4] 54) := by
  go_enter Tryd.func14, Tryd.ntmps14
  go_wp2
  go_ret
  exact ⟨rfl, rfl⟩

theorem newSel_any (p : Option Nat) (n : Int) (w : World) :
    Calls Tryd.prog 15 #[.map p, .int .i64 n] w fun e w' => e = .returned (.agg #[.map p, .int .i64 n]) ∧ Below w.heap.size w w' := by
  go_enter Tryd.func15, Tryd.ntmps15
  go_wp2
  exact bodyPost_ret (v := .agg #[.map p, .int .i64 n]) (by simp [results, Tryd.results15, go_sem]) rfl ⟨rfl, (Below.refl _ _).alloc (Nat.le_refl _) _⟩

/-! the selector's map -/
def SelEnt (w : World) (base : Nat) (p : ByteArray × Value) (q : Req) : Prop := p.1 = q.key ∧ ∃ B mp mpe fa fe, p.2 = .pointer (some ⟨B, 0, none⟩) ∧ ReqBlk w base B q mp mpe fa fe
def Sel (w : World) (base : Nat) (f : Ents) (qs : List Req) : Prop := f.length = qs.length ∧ ∀ (i : Nat) p q, f[i]? = some p → qs[i]? = some q → SelEnt w base p q

theorem Sel.nil (w : World) (base : Nat) : Sel w base [] [] := ⟨rfl, fun i p q h => by simp at h⟩
theorem Sel.below {w w' : World} {base : Nat} {f : Ents} {qs : List Req} (h : Sel w base f qs) (hb : Below w.heap.size w w') : Sel w' base f qs := by
  refine ⟨h.1, fun i p q hp hq => ?_⟩
  obtain ⟨e, B, mp, mpe, fa, fe, e2, r⟩ := h.2 i p q hp hq
  exact ⟨e, B, mp, mpe, fa, fe, e2, r.below hb⟩
theorem Sel.kept {w w' : World} {base : Nat} {f : Ents} {qs : List Req} (h : Sel w base f qs) {P : Nat → Prop} (hb : Keeps P w w') (hP : ∀ k, base ≤ k → ¬ P k) : Sel w' base f qs := by
  refine ⟨h.1, fun i p q hp hq => ?_⟩
  obtain ⟨e, B, mp, mpe, fa, fe, e2, r⟩ := h.2 i p q hp hq
  exact ⟨e, B, mp, mpe, fa, fe, e2, r.kept hb hP⟩
theorem Sel.keys {w : World} {base : Nat} {f : Ents} {qs : List Req} (h : Sel w base f qs) : keys f = keysOf qs := by
  apply List.ext_getElem?
  intro i
  simp only [Qxb6626248aDoor.keys, keysOf, List.getElem?_map]
  cases hp : f[i]? with
  | none =>
    have : qs[i]? = none := by rw [List.getElem?_eq_none_iff] at hp ⊢; rw [← h.1]; exact hp
    rw [this]; rfl
  | some p =>
    have hi : i < qs.length := by rw [← h.1]; exact (List.getElem?_eq_some_iff.1 hp).1
    have hq := List.getElem?_eq_getElem hi
    rw [hq]
    simp [(h.2 i p _ hp hq).1]
theorem Sel.isSome {w : World} {base : Nat} {f : Ents} {qs : List Req} (h : Sel w base f qs) (s : ByteArray) : (look f s).isSome = hasS (keysOf qs) s := by
  rw [Bool.eq_iff_iff, hasS_iff, ← h.keys, ← look_isSome, Option.isSome_iff_exists]
theorem Sel.snoc {w : World} {base : Nat} {f : Ents} {qs : List Req} (h : Sel w base f qs) {p : ByteArray × Value} {q : Req} (hp : SelEnt w base p q) : Sel w base (f ++ [p]) (qs ++ [q]) := by
  refine ⟨by simp [h.1], fun i p' q' h1 h2 => ?_⟩
  by_cases hi : i < f.length
  · rw [List.getElem?_append_left hi] at h1
    rw [List.getElem?_append_left (by rw [← h.1]; exact hi)] at h2
    exact h.2 i p' q' h1 h2
  · have hi2 : i = f.length := by
      have := (List.getElem?_eq_some_iff.1 h1).1
      simp at this
      omega
    subst hi2
    rw [List.getElem?_append_right (by omega)] at h1
    rw [h.1, List.getElem?_append_right (by omega)] at h2
    simp at h1 h2
    subst h1 h2
    exact hp

def nPres (qs : List Req) : Nat := (qs.filter (·.pres)).length
theorem nPres_le (qs : List Req) : nPres qs ≤ qs.length := List.length_filter_le _ _
theorem firsts_len (l : List Req) (k : Nat) (hk : k ≤ l.length) : (firsts (l.take k)).length ≤ k := by
  induction k with
  | zero => simp [firsts]
  | succ k ih =>
    rw [req_take l k (by omega), firsts_snoc]
    have := ih (by omega)
    unfold addFirst
    split
    · omega
    · simp; omega

theorem put_req (W1 : World) (b : Nat) (f : Ents) (M : SMap W1 b f) (key : ByteArray) (cs : Array Value) :
    ∃ W2, (Instr.mapUpdate 26 (.map (some b)) (.string key) (.pointer (some ⟨W1.heap.size, 0, none⟩))).run Tryd.prog (W1.alloc (.cells cs 54)).drew = .ok () W2 ∧ SMap W2 b (put f key (.pointer (some ⟨W1.heap.size, 0, none⟩))) ∧ W2.heap[W1.heap.size]? = some (.cells cs 54 (0, 0)) ∧ Keeps (fun k => k = b) W1 W2 := by
  have M1 : SMap (W1.alloc (.cells cs 54)).drew b f := M.same (Below.heap_alloc _ _ _ M.lt)
  obtain ⟨ob, hrun, M2⟩ := M1.update (P := Tryd.prog) Tryd.underlying26 Tryd.underlying9 key (.pointer (some ⟨W1.heap.size, 0, none⟩))
  have K : Keeps (fun k => k = b) W1 (setBlock (W1.alloc (.cells cs 54)).drew b ob) := ((Keeps.alloc _ _ _).trans (Keeps.drew _ _)).trans (Keeps.set _ _ _)
  refine ⟨_, hrun, M2, ?_, K⟩
  rw [(Keeps.set (W1.alloc (.cells cs 54)).drew b ob).block W1.heap.size (by simp) (Nat.ne_of_gt M.lt)]
  exact heap_alloc_new W1 _

/-- at the head of a round -/
structure BInv (w : World) (rs : List Req) (k : Nat) (f : Ents) (wr : World) : Prop where
  map : SMap wr (w.heap.size + 1) f
  sel : Sel wr (w.heap.size + 2) f (firsts (rs.take k))
  box : wr.heap[w.heap.size]? = some (.cells #[.map none, .int .i64 0] 28 (0, 0))
  bel : Below w.heap.size w wr
  sz : w.heap.size + 2 ≤ wr.heap.size

theorem BInv.next {w : World} {rs : List Req} {k : Nat} {f : Ents} {wr : World} (I : BInv w rs k f wr) (hk : k < rs.length) {q : Req} (hq : q = rqA rs k) (hnew : look f q.key = none)
    {V W2 : World} (BV : Below wr.heap.size wr V) {p pe : Option Nat} {fa fe : Ents} (ma : MapV V (.map p) fa) (me : MapV V (.map pe) fe) (ua : Units fa) (ue : Units fe) (ba : ∀ k, p = some k → wr.heap.size ≤ k) (be : ∀ k, pe = some k → wr.heap.size ≤ k)
    (nn : p.isNone = !q.aset) (al : q.aset = true → ∀ s, (look fa s).isSome = hasS q.al s) (al0 : q.aset = false → fa = []) (ex : ∀ s, (look fe s).isSome = hasS q.ex s)
    (M2 : SMap W2 (w.heap.size + 1) (put f q.key (.pointer (some ⟨V.heap.size, 0, none⟩)))) (RB : W2.heap[V.heap.size]? = some (.cells (reqCells p pe q) 54 (0, 0))) (K2 : Keeps (fun k => k = w.heap.size + 1) V W2) :
    BInv w rs (k + 1) (put f q.key (.pointer (some ⟨V.heap.size, 0, none⟩))) W2 := by
  have s1 := I.sz
  have s2 := BV.size
  have hnk : q.key ∉ keys f := look_none.1 hnew
  have hP : ∀ k, w.heap.size + 2 ≤ k → ¬ (fun k => k = w.heap.size + 1) k := fun k h1 h2 => by omega
  have keepM : ∀ {x : Option Nat} {g : Ents}, MapV V (.map x) g → (∀ k, x = some k → wr.heap.size ≤ k) → MapV W2 (.map x) g := fun hm hb => hm.same (fun k hk e => K2.block k hk (by have := hb k (by simpa using e); omega))
  have S2 : Sel W2 (w.heap.size + 2) f (firsts (rs.take k)) := (I.sel.below BV).kept K2 hP
  refine ⟨M2, ?_, ?_, ?_, ?_⟩
  · rw [put_new f q.key _ hnk, firsts_new hk (by rw [← I.sel.keys, ← hq]; exact hnk), ← hq]
    refine S2.snoc ⟨rfl, V.heap.size, p, pe, fa, fe, rfl, ⟨by omega, RB, keepM ma ba, keepM me be, ua, ue, fun k h => by have := ba k h; omega, fun k h => by have := be k h; omega, nn, al, al0, ex⟩⟩
  · rw [K2.block _ (by have := lt_of_block I.box; omega) (by omega), BV.block _ (by have := lt_of_block I.box; omega)]
    exact I.box
  · exact (below_step I.bel (by omega) BV).trans (K2.below (by omega) (fun k h => by omega))
  · have := K2.size; omega

theorem hasS_snoc (l : List ByteArray) (t s : ByteArray) : hasS (l ++ [t]) s = (hasS l s || decide (t = s)) := by simp [hasS]
theorem str_take (l : List ByteArray) (k : Nat) (h : k < l.length) : l.take (k + 1) = l.take k ++ [strAt l k] := by
  have e : strAt l k = l[k] := by simp [strAt, List.getElem?_eq_getElem h]
  rw [e]
  exact List.take_succ_eq_append_getElem h
theorem set_step {g : Ents} {l : List ByteArray} {k : Nat} (h : k < l.length) (hg : ∀ s, (look g s).isSome = hasS (l.take k) s) : ∀ s, (look (put g (strAt l k) (.agg #[])) s).isSome = hasS (l.take (k + 1)) s := by
  intro s
  rw [isSome_put, hg s, str_take l k h, hasS_snoc, Bool.or_comm]

theorem nPres_next {rs : List Req} {k : Nat} (hk : k < rs.length) {q : Req} (hq : q = rqA rs k) (hn : q.key ∉ keysOf (firsts (rs.take k))) : nPres (firsts (rs.take (k + 1))) = nPres (firsts (rs.take k)) + if q.pres = true then 1 else 0 := by
  rw [firsts_new hk (by rw [← hq]; exact hn), ← hq]
  unfold nPres
  rw [List.filter_append]
  by_cases h : q.pres = true <;> simp [h]

set_option maxRecDepth 100000 in
set_option maxHeartbeats 8000000 in
theorem build_any (a : Option Addr) (c : Nat) (rs : List Req) (w : World) (hl : rs.length ≤ 9223372036854775807) (h : Reqs w a rs) :
    Calls Tryd.prog 7 #[.slice a rs.length c] w fun e w' => ∃ f, e = .returned (.agg #[.map (some (w.heap.size + 1)), .int .i64 (nPres (firsts rs))]) ∧ SMap w' (w.heap.size + 1) f ∧ Sel w' (w.heap.size + 2) f (firsts rs) ∧ Below w.heap.size w w' := by
  have hmm := @run_makeMap Tryd.prog
  go_enter Tryd.func7, Tryd.ntmps7
  go_wp2
  go_loopw [4, 5] (fun x i wr => ∃ (k : Nat) (f : Ents), k ≤ rs.length ∧ i = .int .i64 k ∧ x = .int .i64 (nPres (firsts (rs.take k))) ∧ BInv w rs k f wr) (fun _ i _ => rs.length - (intOf i).toNat)
  case atStart => exact ⟨0, [], Nat.zero_le _, rfl, rfl, ⟨by simpa using SMap.made (w.alloc (.cells #[.map none, .int .i64 0] 28)), Sel.nil _ _, (Below.heap_alloc _ _ _ (by simp)).trans (heap_alloc_new w _), ((Below.refl _ _).alloc (Nat.le_refl _) _).alloc (by simp) _, by simp⟩⟩
  case round =>
    obtain ⟨k, f, hk, rfl, rfl, I⟩ := hrel
    obtain ⟨W0, hW0⟩ : ∃ x, x = wr := ⟨_, rfl⟩
    subst hW0
    have np := nPres_le (firsts (rs.take k))
    have nl := firsts_len rs k hk
    by_cases hkl : k < rs.length
    · obtain ⟨b, off, rfl, hc⟩ := h.get (by omega)
      have R0 := hc k hkl
      clear hc
      obtain ⟨q, hq⟩ : ∃ q, q = rqA rs k := ⟨_, rfl⟩
      rw [← hq] at R0
      have R := R0.below I.bel
      have HQ := hide hq
      clear hq
      have lal := R0.lal
      have lex := R0.lex
      have c0 := R.c0
      have c1 := R.c1
      have c2 := R.c2
      have c3 := R.c3
      have c4 := R.c4
      have c5 := R.c5
      have c6 := R.c6
      have c7 := R.c7
      have c8 := R.c8
      have c9 := R.c9
      clear R
      have MV := fun o => MapV.below (.inr ⟨_, rfl, I.map⟩ : MapV W0 (.map (some (w.heap.size + 1))) f) ((Below.refl _ _).alloc (Nat.le_refl _) o)
      cases hin : look f q.key with
      | some pv =>
        have hm : Hid ((rqA rs k).key ∈ keysOf (firsts (rs.take k))) := by
          show (rqA rs k).key ∈ keysOf (firsts (rs.take k))
          rw [← I.sel.keys, ← HQ.out]
          exact look_isSome.1 ⟨_, hin⟩
        have HI := hide hin
        clear hin
        go_wp2_with (at_lookup; refine wpList_look_ok _ rfl _ _ 26 rfl 9 43 Tryd.underlying26 Tryd.underlying9 (.pointer none) (zero43 _) (.map (some (w.heap.size + 1))) f rfl (MV _) q.key rfl ?_; rw [HI.out])
        go_roundw
        case rel =>
          refine ⟨k + 1, f, by omega, by go_num, by rw [firsts_old hkl hm.out], ?_⟩
          have s1 := I.sz
          refine ⟨I.map.same (Below.heap_alloc _ _ _ I.map.lt), ?_, (Below.heap_alloc _ _ _ (by omega)).trans I.box, I.bel.alloc (by omega) _, by simp; omega⟩
          rw [firsts_old hkl hm.out]
          exact I.sel.below ((Below.refl _ _).alloc (Nat.le_refl _) _)
        case measure => simp [intOf]; omega
      | none =>
        have HI := hide hin
        clear hin
        cases has : q.aset with
        | false =>
          rw [has] at c3
          have HA := hide has
          clear has
          by_cases hex : q.ex.length = 0
          · have hex2 : (q.ex.length : Int) ≤ 0 := by omega
            have HE : Hid (q.ex = []) := List.eq_nil_of_length_eq_zero hex
            clear hex
            go_wp2_with (at_lookup; refine wpList_look_ok _ rfl _ _ 26 rfl 9 43 Tryd.underlying26 Tryd.underlying9 (.pointer none) (zero43 _) (.map (some (w.heap.size + 1))) f rfl (MV _) q.key rfl ?_; rw [HI.out])
            obtain ⟨W1, hW1⟩ : ∃ x, x = W0.alloc (.cells #[.string q.key, .bool q.pres, .bool q.abst, .bool false, .slice q.alA q.al.length q.alC, .slice q.exA q.ex.length q.exC, .bool q.hasLo, .int .i64 q.lo, .bool q.hasUp, .int .i64 q.up] 37) := ⟨_, rfl⟩
            have BX1 : W1.heap[W0.heap.size]? = some (.cells #[.string q.key, .bool q.pres, .bool q.abst, .bool false, .slice q.alA q.al.length q.alC, .slice q.exA q.ex.length q.exC, .bool q.hasLo, .int .i64 q.lo, .bool q.hasUp, .int .i64 q.up] 37 (0, 0)) := by subst hW1; exact heap_alloc_new W0 _
            have BV1 : Below W0.heap.size W0 W1 := by subst hW1; exact (Below.refl _ _).alloc (Nat.le_refl _) _
            have EU1 : Hid (W1.heap.size = W0.heap.size + 1) := by subst hW1; simp [Hid]
            rw [← hW1]
            clear hW1 c0 c1 c2 c3 c4 c5 c6 c7 c8 c9 MV
            have MV1 : SMap W1 (w.heap.size + 1) f := I.map.same (BV1.block _ I.map.lt)
            obtain ⟨W2, hrun, M2, RB, K2⟩ := put_req W1 (w.heap.size + 1) f MV1 q.key #[.map none, .map none, .bool q.pres, .bool q.abst, .int .i64 q.lo, .int .i64 q.up, .bool q.hasLo, .bool q.hasUp]
            have J := I.next hkl HQ.out HI.out BV1 (.inl ⟨rfl, rfl⟩) (.inl ⟨rfl, rfl⟩) Units.nil Units.nil (fun k h => by cases h) (fun k h => by cases h) (by rw [HA.out]; rfl) (fun h => by rw [HA.out] at h; cases h) (fun _ => rfl) (fun s => by rw [HE.out]; rfl) M2 RB K2
            have NP := hide (nPres_next hkl HQ.out (by rw [← I.sel.keys]; exact look_none.1 HI.out))
            have BX9 := (K2.block _ (lt_of_block BX1) (Nat.ne_of_gt I.map.lt)).trans BX1
            have xl := lt_of_block BX1
            have e0 := cell_at BX1 0 rfl
            have e1 := cell_at BX1 1 rfl
            have e2 := cell_at BX1 2 rfl
            have e6 := cell_at BX1 6 rfl
            have e7 := cell_at BX1 7 rfl
            have e8 := cell_at BX1 8 rfl
            have e9 := cell_at BX1 9 rfl
            have d0 := cell_at BX9 0 rfl
            have d1 := cell_at BX9 1 rfl
            have d2 := cell_at BX9 2 rfl
            have d6 := cell_at BX9 6 rfl
            have d7 := cell_at BX9 7 rfl
            have d8 := cell_at BX9 8 rfl
            have d9 := cell_at BX9 9 rfl
            clear BX9 M2 RB K2 MV1
            go_region_held3 (fun w' => w'.cell? ⟨W0.heap.size, 0, none⟩ = some (.string q.key) ∧ w'.cell? ⟨W0.heap.size, 1, none⟩ = some (.bool q.pres) ∧ w'.cell? ⟨W0.heap.size, 2, none⟩ = some (.bool q.abst) ∧ w'.cell? ⟨W0.heap.size, 6, none⟩ = some (.bool q.hasLo) ∧ w'.cell? ⟨W0.heap.size, 7, none⟩ = some (.int .i64 q.lo) ∧ w'.cell? ⟨W0.heap.size, 8, none⟩ = some (.bool q.hasUp) ∧ w'.cell? ⟨W0.heap.size, 9, none⟩ = some (.int .i64 q.up)) (go_keep) ((go_at_call 14; refine (newReq_any _ _ _ _ _ _ _ _ _).mono ?_; rintro e w' ⟨rfl, rfl⟩))
            clear hrun e0 e1 e2 e6 e7 e8 e9 d0 d2 d6 d7 d8 d9
            cases hpr : q.pres with
            | true =>
              have NP2 : Hid (nPres (firsts (rs.take (k + 1))) = nPres (firsts (rs.take k)) + 1) := by have := NP.out; rw [hpr] at this; exact this
              rw [hpr] at d1
              go_wp2
              go_roundw
              case rel => exact ⟨k + 1, _, by omega, by go_num, by rw [NP2.out]; go_num, J⟩
              case measure => simp [intOf]; omega
            | false =>
              have NP2 : Hid (nPres (firsts (rs.take (k + 1))) = nPres (firsts (rs.take k))) := by have := NP.out; rw [hpr] at this; exact this
              rw [hpr] at d1
              go_wp2
              go_roundw
              case rel => exact ⟨k + 1, _, by omega, by go_num, by rw [NP2.out], J⟩
              case measure => simp [intOf]; omega
          · have hex2 : (0 : Int) < (q.ex.length : Int) := by omega
            clear hex
            go_wp2_with (at_lookup; refine wpList_look_ok _ rfl _ _ 26 rfl 9 43 Tryd.underlying26 Tryd.underlying9 (.pointer none) (zero43 _) (.map (some (w.heap.size + 1))) f rfl (MV _) q.key rfl ?_; rw [HI.out])
            obtain ⟨W1, hW1⟩ : ∃ x, x = W0.alloc (.cells #[.string q.key, .bool q.pres, .bool q.abst, .bool false, .slice q.alA q.al.length q.alC, .slice q.exA q.ex.length q.exC, .bool q.hasLo, .int .i64 q.lo, .bool q.hasUp, .int .i64 q.up] 37) := ⟨_, rfl⟩
            have BX1 : W1.heap[W0.heap.size]? = some (.cells #[.string q.key, .bool q.pres, .bool q.abst, .bool false, .slice q.alA q.al.length q.alC, .slice q.exA q.ex.length q.exC, .bool q.hasLo, .int .i64 q.lo, .bool q.hasUp, .int .i64 q.up] 37 (0, 0)) := by subst hW1; exact heap_alloc_new W0 _
            have BV1 : Below W0.heap.size W0 W1 := by subst hW1; exact (Below.refl _ _).alloc (Nat.le_refl _) _
            have EU1 : Hid (W1.heap.size = W0.heap.size + 1) := by subst hW1; simp [Hid]
            rw [← hW1]
            clear hW1 c0 c1 c2 c3 c4 c5 c6 c7 c8 c9 MV
            go_loopw [12] (fun y wq => ∃ (j : Nat) (g : Ents), j ≤ q.ex.length ∧ y = .int .i64 j ∧ SMap wq (W0.heap.size + 1) g ∧ Units g ∧ Hid (∀ s, (look g s).isSome = hasS (q.ex.take j) s) ∧ Below W1.heap.size W1 wq) (fun y _ => q.ex.length - (intOf y).toNat)
            case atStart => exact ⟨0, [], Nat.zero_le _, rfl, EU1.out ▸ SMap.made W1, Units.nil, fun s => rfl, (Below.refl _ _).alloc (Nat.le_refl _) _⟩
            case round =>
              obtain ⟨jX, gX, hjX, rfl, MX, UX, SX, BX⟩ := hrel
              obtain ⟨VX, hV⟩ : ∃ x, x = wr := ⟨_, rfl⟩
              subst hV
              have szX := BX.size
              have sz0X := BV1.size
              have euX := EU1.out
              have BXX := (BX.block _ (lt_of_block BX1)).trans BX1
              have BVX := below_step BV1 BV1.size BX
              have ee := cell_at BXX 5 rfl
              by_cases hjl : jX < q.ex.length
              · obtain ⟨eb, eo, hea, hec⟩ := (R0.sex.below (below_step I.bel I.bel.size BVX)).get (by omega)
                have es := hec jX hjl
                have HBX := hide euX
                clear hec euX
                rw [hea] at ee
                go_wp2_with (at_mapUpdate; refine wpList_mapPut _ rfl _ _ _ 45 rfl 9 46 Tryd.underlying45 Tryd.underlying9 (W0.heap.size + 1) gX rfl MX (strAt q.ex jX) rfl (.agg #[]) rfl ?_; intro V4 MG4 KG4; go_frame)
                go_roundw
                case rel => exact ⟨jX + 1, _, by omega, by go_num, MG4, UX.put _, set_step hjl SX.out, BX.trans (KG4.below (by omega) (fun k h => by have := HBX.out; omega))⟩
                case measure => simp [intOf]; omega
              · obtain rfl : jX = q.ex.length := by omega
                have TX : Hid (∀ s, (look gX s).isSome = hasS q.ex s) := by have := SX.out; rw [List.take_length] at this; exact this
                have HBX := hide euX
                clear euX
                go_wp2
                clear ee
                have MV1 : SMap VX (w.heap.size + 1) f := I.map.same (BVX.block _ I.map.lt)
                obtain ⟨W2, hrun, M2, RB, K2⟩ := put_req VX (w.heap.size + 1) f MV1 q.key #[.map none, .map (some (W0.heap.size + 1)), .bool q.pres, .bool q.abst, .int .i64 q.lo, .int .i64 q.up, .bool q.hasLo, .bool q.hasUp]
                have J := I.next hkl HQ.out HI.out BVX (.inl ⟨rfl, rfl⟩) (.inr ⟨_, rfl, MX⟩) Units.nil UX (fun k h => by cases h) (fun k h => by simp at h; have := HBX.out; omega) (by rw [HA.out]; rfl) (fun h => by rw [HA.out] at h; cases h) (fun _ => rfl) TX.out M2 RB K2
                have NP := hide (nPres_next hkl HQ.out (by rw [← I.sel.keys]; exact look_none.1 HI.out))
                have BX9 := (K2.block _ (lt_of_block BXX) (Nat.ne_of_gt I.map.lt)).trans BXX
                have xl := lt_of_block BXX
                have e0 := cell_at BXX 0 rfl
                have e1 := cell_at BXX 1 rfl
                have e2 := cell_at BXX 2 rfl
                have e6 := cell_at BXX 6 rfl
                have e7 := cell_at BXX 7 rfl
                have e8 := cell_at BXX 8 rfl
                have e9 := cell_at BXX 9 rfl
                have d0 := cell_at BX9 0 rfl
                have d1 := cell_at BX9 1 rfl
                have d2 := cell_at BX9 2 rfl
                have d6 := cell_at BX9 6 rfl
                have d7 := cell_at BX9 7 rfl
                have d8 := cell_at BX9 8 rfl
                have d9 := cell_at BX9 9 rfl
                clear BX9 M2 RB K2 MV1
                go_region_held3 (fun w' => w'.cell? ⟨W0.heap.size, 0, none⟩ = some (.string q.key) ∧ w'.cell? ⟨W0.heap.size, 1, none⟩ = some (.bool q.pres) ∧ w'.cell? ⟨W0.heap.size, 2, none⟩ = some (.bool q.abst) ∧ w'.cell? ⟨W0.heap.size, 6, none⟩ = some (.bool q.hasLo) ∧ w'.cell? ⟨W0.heap.size, 7, none⟩ = some (.int .i64 q.lo) ∧ w'.cell? ⟨W0.heap.size, 8, none⟩ = some (.bool q.hasUp) ∧ w'.cell? ⟨W0.heap.size, 9, none⟩ = some (.int .i64 q.up)) (go_keep) ((go_at_call 14; refine (newReq_any _ _ _ _ _ _ _ _ _).mono ?_; rintro e w' ⟨rfl, rfl⟩))
                clear hrun e0 e1 e2 e6 e7 e8 e9 d0 d2 d6 d7 d8 d9
                cases hpr : q.pres with
                | true =>
                  have NP2 : Hid (nPres (firsts (rs.take (k + 1))) = nPres (firsts (rs.take k)) + 1) := by have := NP.out; rw [hpr] at this; exact this
                  rw [hpr] at d1
                  go_wp2
                  go_roundw
                  case rel => exact ⟨k + 1, _, by omega, by go_num, by rw [NP2.out]; go_num, J⟩
                  case measure => simp [intOf]; omega
                | false =>
                  have NP2 : Hid (nPres (firsts (rs.take (k + 1))) = nPres (firsts (rs.take k))) := by have := NP.out; rw [hpr] at this; exact this
                  rw [hpr] at d1
                  go_wp2
                  go_roundw
                  case rel => exact ⟨k + 1, _, by omega, by go_num, by rw [NP2.out], J⟩
                  case measure => simp [intOf]; omega
        | true =>
          rw [has] at c3
          have HA := hide has
          clear has
          go_wp2_with (at_lookup; refine wpList_look_ok _ rfl _ _ 26 rfl 9 43 Tryd.underlying26 Tryd.underlying9 (.pointer none) (zero43 _) (.map (some (w.heap.size + 1))) f rfl (MV _) q.key rfl ?_; rw [HI.out])
          obtain ⟨W1, hW1⟩ : ∃ x, x = W0.alloc (.cells #[.string q.key, .bool q.pres, .bool q.abst, .bool true, .slice q.alA q.al.length q.alC, .slice q.exA q.ex.length q.exC, .bool q.hasLo, .int .i64 q.lo, .bool q.hasUp, .int .i64 q.up] 37) := ⟨_, rfl⟩
          have BX1 : W1.heap[W0.heap.size]? = some (.cells #[.string q.key, .bool q.pres, .bool q.abst, .bool true, .slice q.alA q.al.length q.alC, .slice q.exA q.ex.length q.exC, .bool q.hasLo, .int .i64 q.lo, .bool q.hasUp, .int .i64 q.up] 37 (0, 0)) := by subst hW1; exact heap_alloc_new W0 _
          have BV1 : Below W0.heap.size W0 W1 := by subst hW1; exact (Below.refl _ _).alloc (Nat.le_refl _) _
          have EU1 : Hid (W1.heap.size = W0.heap.size + 1) := by subst hW1; simp [Hid]
          rw [← hW1]
          clear hW1 c0 c1 c2 c3 c4 c5 c6 c7 c8 c9 MV
          go_loopw [10] (fun y wq => ∃ (j : Nat) (g : Ents), j ≤ q.al.length ∧ y = .int .i64 j ∧ SMap wq (W0.heap.size + 1) g ∧ Units g ∧ Hid (∀ s, (look g s).isSome = hasS (q.al.take j) s) ∧ Below W1.heap.size W1 wq) (fun y _ => q.al.length - (intOf y).toNat)
          case atStart => exact ⟨0, [], Nat.zero_le _, rfl, EU1.out ▸ SMap.made W1, Units.nil, fun s => rfl, (Below.refl _ _).alloc (Nat.le_refl _) _⟩
          case round =>
            obtain ⟨jA, gA, hjA, rfl, MA, UA, SA, BA⟩ := hrel
            obtain ⟨VA, hV⟩ : ∃ x, x = wr := ⟨_, rfl⟩
            subst hV
            have szA := BA.size
            have sz0A := BV1.size
            have euA := EU1.out
            have BXA := (BA.block _ (lt_of_block BX1)).trans BX1
            have BVA := below_step BV1 BV1.size BA
            have ee := cell_at BXA 4 rfl
            by_cases hjl : jA < q.al.length
            · obtain ⟨eb, eo, hea, hec⟩ := (R0.sal.below (below_step I.bel I.bel.size BVA)).get (by omega)
              have es := hec jA hjl
              have HBA := hide euA
              clear hec euA
              rw [hea] at ee
              go_wp2_with (at_mapUpdate; refine wpList_mapPut _ rfl _ _ _ 45 rfl 9 46 Tryd.underlying45 Tryd.underlying9 (W0.heap.size + 1) gA rfl MA (strAt q.al jA) rfl (.agg #[]) rfl ?_; intro V4 MG4 KG4; go_frame)
              go_roundw
              case rel => exact ⟨jA + 1, _, by omega, by go_num, MG4, UA.put _, set_step hjl SA.out, BA.trans (KG4.below (by omega) (fun k h => by have := HBA.out; omega))⟩
              case measure => simp [intOf]; omega
            · obtain rfl : jA = q.al.length := by omega
              have TA : Hid (∀ s, (look gA s).isSome = hasS q.al s) := by have := SA.out; rw [List.take_length] at this; exact this
              have HBA := hide euA
              clear euA
              by_cases hex : q.ex.length = 0
              · have hex2 : (q.ex.length : Int) ≤ 0 := by omega
                have HE : Hid (q.ex = []) := List.eq_nil_of_length_eq_zero hex
                clear hex
                have e5 := cell_at BXA 5 rfl
                go_wp2
                clear ee e5
                have MV1 : SMap VA (w.heap.size + 1) f := I.map.same (BVA.block _ I.map.lt)
                obtain ⟨W2, hrun, M2, RB, K2⟩ := put_req VA (w.heap.size + 1) f MV1 q.key #[.map (some (W0.heap.size + 1)), .map none, .bool q.pres, .bool q.abst, .int .i64 q.lo, .int .i64 q.up, .bool q.hasLo, .bool q.hasUp]
                have J := I.next hkl HQ.out HI.out BVA (.inr ⟨_, rfl, MA⟩) (.inl ⟨rfl, rfl⟩) UA Units.nil (fun k h => by simp at h; have := EU1.out; omega) (fun k h => by cases h) (by rw [HA.out]; rfl) (fun _ => TA.out) (fun h => by rw [HA.out] at h; cases h) (fun s => by rw [HE.out]; rfl) M2 RB K2
                have NP := hide (nPres_next hkl HQ.out (by rw [← I.sel.keys]; exact look_none.1 HI.out))
                have BX9 := (K2.block _ (lt_of_block BXA) (Nat.ne_of_gt I.map.lt)).trans BXA
                have xl := lt_of_block BXA
                have e0 := cell_at BXA 0 rfl
                have e1 := cell_at BXA 1 rfl
                have e2 := cell_at BXA 2 rfl
                have e6 := cell_at BXA 6 rfl
                have e7 := cell_at BXA 7 rfl
                have e8 := cell_at BXA 8 rfl
                have e9 := cell_at BXA 9 rfl
                have d0 := cell_at BX9 0 rfl
                have d1 := cell_at BX9 1 rfl
                have d2 := cell_at BX9 2 rfl
                have d6 := cell_at BX9 6 rfl
                have d7 := cell_at BX9 7 rfl
                have d8 := cell_at BX9 8 rfl
                have d9 := cell_at BX9 9 rfl
                clear BX9 M2 RB K2 MV1
                go_region_held3 (fun w' => w'.cell? ⟨W0.heap.size, 0, none⟩ = some (.string q.key) ∧ w'.cell? ⟨W0.heap.size, 1, none⟩ = some (.bool q.pres) ∧ w'.cell? ⟨W0.heap.size, 2, none⟩ = some (.bool q.abst) ∧ w'.cell? ⟨W0.heap.size, 6, none⟩ = some (.bool q.hasLo) ∧ w'.cell? ⟨W0.heap.size, 7, none⟩ = some (.int .i64 q.lo) ∧ w'.cell? ⟨W0.heap.size, 8, none⟩ = some (.bool q.hasUp) ∧ w'.cell? ⟨W0.heap.size, 9, none⟩ = some (.int .i64 q.up)) (go_keep) ((go_at_call 14; refine (newReq_any _ _ _ _ _ _ _ _ _).mono ?_; rintro e w' ⟨rfl, rfl⟩))
                clear hrun e0 e1 e2 e6 e7 e8 e9 d0 d2 d6 d7 d8 d9
                cases hpr : q.pres with
                | true =>
                  have NP2 : Hid (nPres (firsts (rs.take (k + 1))) = nPres (firsts (rs.take k)) + 1) := by have := NP.out; rw [hpr] at this; exact this
                  rw [hpr] at d1
                  go_wp2
                  go_roundw
                  case rel => exact ⟨k + 1, _, by omega, by go_num, by rw [NP2.out]; go_num, J⟩
                  case measure => simp [intOf]; omega
                | false =>
                  have NP2 : Hid (nPres (firsts (rs.take (k + 1))) = nPres (firsts (rs.take k))) := by have := NP.out; rw [hpr] at this; exact this
                  rw [hpr] at d1
                  go_wp2
                  go_roundw
                  case rel => exact ⟨k + 1, _, by omega, by go_num, by rw [NP2.out], J⟩
                  case measure => simp [intOf]; omega
              · have hex2 : (0 : Int) < (q.ex.length : Int) := by omega
                clear hex
                have e5 := cell_at BXA 5 rfl
                go_wp2
                clear ee e5
                go_loopw [12] (fun y wq => ∃ (j : Nat) (g : Ents), j ≤ q.ex.length ∧ y = .int .i64 j ∧ SMap wq (VA.heap.size) g ∧ Units g ∧ Hid (∀ s, (look g s).isSome = hasS (q.ex.take j) s) ∧ Below VA.heap.size VA wq) (fun y _ => q.ex.length - (intOf y).toNat)
                case atStart => exact ⟨0, [], Nat.zero_le _, rfl, SMap.made VA, Units.nil, fun s => rfl, (Below.refl _ _).alloc (Nat.le_refl _) _⟩
                case round =>
                  obtain ⟨jX, gX, hjX, rfl, MX, UX, SX, BX⟩ := hrel
                  obtain ⟨VX, hV⟩ : ∃ x, x = wr := ⟨_, rfl⟩
                  subst hV
                  have szX := BX.size
                  have sz0X := BVA.size
                  have euX := Nat.le_refl VA.heap.size
                  have BXX := (BX.block _ (lt_of_block BXA)).trans BXA
                  have BVX := below_step BVA BVA.size BX
                  have ee := cell_at BXX 5 rfl
                  by_cases hjl : jX < q.ex.length
                  · obtain ⟨eb, eo, hea, hec⟩ := (R0.sex.below (below_step I.bel I.bel.size BVX)).get (by omega)
                    have es := hec jX hjl
                    have HBX := hide euX
                    clear hec euX
                    rw [hea] at ee
                    go_wp2_with (at_mapUpdate; refine wpList_mapPut _ rfl _ _ _ 45 rfl 9 46 Tryd.underlying45 Tryd.underlying9 (VA.heap.size) gX rfl MX (strAt q.ex jX) rfl (.agg #[]) rfl ?_; intro V4 MG4 KG4; go_frame)
                    go_roundw
                    case rel => exact ⟨jX + 1, _, by omega, by go_num, MG4, UX.put _, set_step hjl SX.out, BX.trans (KG4.below (by omega) (fun k h => by have := HBX.out; omega))⟩
                    case measure => simp [intOf]; omega
                  · obtain rfl : jX = q.ex.length := by omega
                    have TX : Hid (∀ s, (look gX s).isSome = hasS q.ex s) := by have := SX.out; rw [List.take_length] at this; exact this
                    have HBX := hide euX
                    clear euX
                    go_wp2
                    clear ee
                    have MV1 : SMap VX (w.heap.size + 1) f := I.map.same (BVX.block _ I.map.lt)
                    obtain ⟨W2, hrun, M2, RB, K2⟩ := put_req VX (w.heap.size + 1) f MV1 q.key #[.map (some (W0.heap.size + 1)), .map (some (VA.heap.size)), .bool q.pres, .bool q.abst, .int .i64 q.lo, .int .i64 q.up, .bool q.hasLo, .bool q.hasUp]
                    have J := I.next hkl HQ.out HI.out BVX (MapV.below (.inr ⟨_, rfl, MA⟩) BX) (.inr ⟨_, rfl, MX⟩) UA UX (fun k h => by simp at h; have := EU1.out; omega) (fun k h => by simp at h; have := HBX.out; omega) (by rw [HA.out]; rfl) (fun _ => TA.out) (fun h => by rw [HA.out] at h; cases h) TX.out M2 RB K2
                    have NP := hide (nPres_next hkl HQ.out (by rw [← I.sel.keys]; exact look_none.1 HI.out))
                    have BX9 := (K2.block _ (lt_of_block BXX) (Nat.ne_of_gt I.map.lt)).trans BXX
                    have xl := lt_of_block BXX
                    have e0 := cell_at BXX 0 rfl
                    have e1 := cell_at BXX 1 rfl
                    have e2 := cell_at BXX 2 rfl
                    have e6 := cell_at BXX 6 rfl
                    have e7 := cell_at BXX 7 rfl
                    have e8 := cell_at BXX 8 rfl
                    have e9 := cell_at BXX 9 rfl
                    have d0 := cell_at BX9 0 rfl
                    have d1 := cell_at BX9 1 rfl
                    have d2 := cell_at BX9 2 rfl
                    have d6 := cell_at BX9 6 rfl
                    have d7 := cell_at BX9 7 rfl
                    have d8 := cell_at BX9 8 rfl
                    have d9 := cell_at BX9 9 rfl
                    clear BX9 M2 RB K2 MV1
                    go_region_held3 (fun w' => w'.cell? ⟨W0.heap.size, 0, none⟩ = some (.string q.key) ∧ w'.cell? ⟨W0.heap.size, 1, none⟩ = some (.bool q.pres) ∧ w'.cell? ⟨W0.heap.size, 2, none⟩ = some (.bool q.abst) ∧ w'.cell? ⟨W0.heap.size, 6, none⟩ = some (.bool q.hasLo) ∧ w'.cell? ⟨W0.heap.size, 7, none⟩ = some (.int .i64 q.lo) ∧ w'.cell? ⟨W0.heap.size, 8, none⟩ = some (.bool q.hasUp) ∧ w'.cell? ⟨W0.heap.size, 9, none⟩ = some (.int .i64 q.up)) (go_keep) ((go_at_call 14; refine (newReq_any _ _ _ _ _ _ _ _ _).mono ?_; rintro e w' ⟨rfl, rfl⟩))
                    clear hrun e0 e1 e2 e6 e7 e8 e9 d0 d2 d6 d7 d8 d9
                    cases hpr : q.pres with
                    | true =>
                      have NP2 : Hid (nPres (firsts (rs.take (k + 1))) = nPres (firsts (rs.take k)) + 1) := by have := NP.out; rw [hpr] at this; exact this
                      rw [hpr] at d1
                      go_wp2
                      go_roundw
                      case rel => exact ⟨k + 1, _, by omega, by go_num, by rw [NP2.out]; go_num, J⟩
                      case measure => simp [intOf]; omega
                    | false =>
                      have NP2 : Hid (nPres (firsts (rs.take (k + 1))) = nPres (firsts (rs.take k))) := by have := NP.out; rw [hpr] at this; exact this
                      rw [hpr] at d1
                      go_wp2
                      go_roundw
                      case rel => exact ⟨k + 1, _, by omega, by go_num, by rw [NP2.out], J⟩
                      case measure => simp [intOf]; omega
    · obtain rfl : k = rs.length := by omega
      have M := I.map
      have SL := I.sel
      rw [List.take_length] at SL
      have BX := I.box
      have B := I.bel
      rw [List.take_length]
      go_wp2_with fail
      refine (newSel_any (some (w.heap.size + 1)) (nPres (firsts rs)) W0).mono ?_
      rintro e W3 ⟨rfl, B3⟩
      have sz := I.sz
      have BX3 := (B3.block _ (lt_of_block BX)).trans BX
      have B3' := below_step B (by omega) B3
      have M3 := M.same (B3.block _ M.lt)
      have SL3 := SL.below B3
      have t0 := cell_at BX3 0 rfl
      have t1 := cell_at BX3 1 rfl
      have f0 := frozen_of_row W3 w.heap.size 0 _ 28 BX3
      have f1 := frozen_of_row W3 w.heap.size 1 _ 28 BX3
      clear BX3 B3 M SL BX B I
      go_wp2
      have K3 : Keeps (fun k => k = w.heap.size) W3 ((W3.setCell ⟨w.heap.size, 0, none⟩ (.map (some (w.heap.size + 1)))).setCell ⟨w.heap.size, 1, none⟩ (.int .i64 (nPres (firsts rs)))) := (Keeps.setCell (P := fun k => k = w.heap.size) W3 ⟨w.heap.size, 0, none⟩ _ rfl).trans (Keeps.setCell (P := fun k => k = w.heap.size) _ ⟨w.heap.size, 1, none⟩ _ rfl)
      refine bodyPost_ret (v := .agg #[.map (some (w.heap.size + 1)), .int .i64 (nPres (firsts rs))]) (by simp [results, Tryd.results7, go_sem, t0, t1]) rfl ⟨f, rfl, M3.same (K3.block _ M3.lt (by omega)), SL3.kept K3 (fun k h1 h2 => by omega), (B3'.setCell (by exact Nat.le_refl _) _).setCell (by exact Nat.le_refl _) _⟩
end Go.Proofs.Qxb6626248aDoor
