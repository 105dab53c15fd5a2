import Derived.Test.Qxb6626345aWords
namespace Go.Proofs.Qxb6626345a
open Go.ChangeShapes Go.WideShapes Go.ChangeAt Go.RowKit
set_option linter.unusedVariables false
set_option linter.unusedSimpArgs false

theorem beqB (a b : ByteArray) : (a.toList == b.toList) = decide (a = b) := by
  rw [ByteArray.toList_eq, ByteArray.toList_eq]
  by_cases h : a = b
  · subst h; simp
  · have : a.data.toList ≠ b.data.toList := fun e => h (WideShapes.bytes_inj e)
    rw [beq_eq_false_iff_ne.2 this]
    simp [h]

def IsB (l : List Int) : Prop := ∀ i, i < l.length → 0 ≤ at0 l i ∧ at0 l i < 256
def nums (l : List Int) (p n : Nat) : List Int := (List.range n).map fun j => at0 l (p + j)
theorem nums_length (l : List Int) (p n : Nat) : (nums l p n).length = n := by simp [nums]
theorem ofNat_inj {x y : Int} (hx : 0 ≤ x ∧ x < 256) (hy : 0 ≤ y ∧ y < 256) (h : UInt8.ofNat x.toNat = UInt8.ofNat y.toNat) : x = y := by
  have := congrArg UInt8.toNat h
  simp at this
  omega
theorem nums_stands {l : List Int} {p : Nat} {k : List Int} (hl : IsB l) (hk : IsB k) (hp : p + k.length ≤ l.length) : strOfNums (nums l p k.length) = strOfNums k ↔ stands l p k = true := by
  constructor
  · intro h
    refine stands_of hp fun j hj => ?_
    have e := congrArg (fun s : ByteArray => s.data.toList[j]?) h
    simp only [strOfNums_data] at e
    simp [nums, hj, List.getElem?_eq_getElem hj] at e
    have e2 : at0 k j = k[j] := by simp [at0, List.getElem?_eq_getElem hj]
    refine ofNat_inj (hl _ (by omega)) (hk _ hj) ?_
    rw [e2]; exact e
  · intro h
    have e : nums l p k.length = k := by
      apply List.ext_getElem (by simp [nums])
      intro i h1 h2
      have := (stands_at h).2 i h2
      have e2 : at0 k i = k[i] := by simp [at0, List.getElem?_eq_getElem h2]
      simp [nums, this, e2]
    rw [e]

theorem sT : strOfNums tW = ⟨#[116, 114, 117, 101]⟩ := rfl
theorem sF : strOfNums fW = ⟨#[102, 97, 108, 115, 101]⟩ := rfl
theorem sN : strOfNums nW = ⟨#[110, 117, 108, 108]⟩ := rfl
theorem bT : IsB tW := by intro i hi; have : i = 0 ∨ i = 1 ∨ i = 2 ∨ i = 3 := by simp [tW] at hi; omega
                          rcases this with rfl | rfl | rfl | rfl <;> decide
theorem bF : IsB fW := by intro i hi; have : i = 0 ∨ i = 1 ∨ i = 2 ∨ i = 3 ∨ i = 4 := by simp [fW] at hi; omega
                          rcases this with rfl | rfl | rfl | rfl | rfl <;> decide
theorem bN : IsB nW := by intro i hi; have : i = 0 ∨ i = 1 ∨ i = 2 ∨ i = 3 := by simp [nW] at hi; omega
                          rcases this with rfl | rfl | rfl | rfl <;> decide

theorem conv (w : World) (g p n c : Nat) (l : List Int) (hc : ∀ i, i < l.length → w.cell? ⟨g, i, none⟩ = some (.int .u8 (at0 l i))) (hp : p + n ≤ l.length) (m : Nat) :
    (convert 22 9 (.slice (some ⟨g, p, none⟩) n c)).run Try.prog (w.drewN m) = .ok (.string (strOfNums (nums l p n))) (w.drewN m) :=
  run_convert_bytes_arg (w.drewN m) 22 5 Try.underlying22 Try.underlying5 g p n c (nums l p n) (nums_length _ _ _) (fun i hi => by
    have := hc (p + i) (by omega)
    simp [nums, hi, List.getD]
    exact this) 9 Try.underlying9

def arr3 : Value := .agg #[.string ⟨#[116, 114, 117, 101]⟩, .string ⟨#[102, 97, 108, 115, 101]⟩, .string ⟨#[110, 117, 108, 108]⟩]
theorem ix0 (W : World) : (Instr.index 33 (.agg #[.string ⟨#[116, 114, 117, 101]⟩, .string ⟨#[102, 97, 108, 115, 101]⟩, .string ⟨#[110, 117, 108, 108]⟩]) (.int .i64 0)).run Try.prog W = .ok (.string ⟨#[116, 114, 117, 101]⟩) W := by kernel_rfl
theorem ix1 (W : World) : (Instr.index 33 (.agg #[.string ⟨#[116, 114, 117, 101]⟩, .string ⟨#[102, 97, 108, 115, 101]⟩, .string ⟨#[110, 117, 108, 108]⟩]) (.int .i64 1)).run Try.prog W = .ok (.string ⟨#[102, 97, 108, 115, 101]⟩) W := by kernel_rfl
theorem ix2 (W : World) : (Instr.index 33 (.agg #[.string ⟨#[116, 114, 117, 101]⟩, .string ⟨#[102, 97, 108, 115, 101]⟩, .string ⟨#[110, 117, 108, 108]⟩]) (.int .i64 2)).run Try.prog W = .ok (.string ⟨#[110, 117, 108, 108]⟩) W := by kernel_rfl

theorem beqL {s : ByteArray} {xs : List UInt8} (h : s ≠ ⟨xs.toArray⟩) : (s.toList == xs) = false := by
  rw [ByteArray.toList_eq, beq_eq_false_iff_ne]
  intro e
  apply h
  cases s
  simp at e
  simp [← e]
theorem ret_two {a b : ByteArray} {c : Bool} (h : a = b) : Ending.returned (.tuple #[.string a, .bool c]) = .returned (.tuple #[.string b, .bool c]) := by rw [h]
theorem set_int {w : World} {S n : Nat} {x y : Int} (h : x = y) : (w.drewN n).setCell ⟨S, 1, none⟩ (.int .i64 x) = (w.drewN n).setCell ⟨S, 1, none⟩ (.int .i64 y) := by rw [h]
set_option maxHeartbeats 4000000 in
theorem lit_any (w : World) (S g : Nat) (a : Option Addr) (c : Nat) (l : List Int) (p : Nat) (h0 : w.cell? ⟨S, 0, none⟩ = some (.slice a l.length c)) (ha : Hid (l.length = 0 ∨ a = some ⟨g, 0, none⟩)) (h1 : w.cell? ⟨S, 1, none⟩ = some (.int .i64 (p : Int)))
    (hf : w.frozen? ⟨S, 1, none⟩ = false) (hc : Hid (∀ i, i < l.length → w.cell? ⟨g, i, none⟩ = some (.int .u8 (at0 l i)))) (hl : l.length ≤ 1048576) (hcap : l.length ≤ c) (hp : p ≤ 3145728) (hB : Hid (IsB l)) :
    Calls Try.prog 8 #[.pointer (some ⟨S, 0, none⟩)] w fun e w' =>
      (Hid (wd l p = ⟨#[]⟩) ∧ e = .returned (.tuple #[.string ⟨#[]⟩, .bool false]) ∧ ∃ n, w' = w.drewN n) ∨
      (Hid (wd l p ≠ ⟨#[]⟩) ∧ e = .returned (.tuple #[.string (wd l p), .bool true]) ∧ ∃ n, w' = (w.drewN n).setCell ⟨S, 1, none⟩ (.int .i64 ((p + (wd l p).size : Nat) : Int))) := by
  go_enter Try.func8, Try.ntmps8
  go_wp2
  go_loopw [8] (fun k wr => ∃ i : Nat, i ≤ 3 ∧ k = .int .i64 (i : Int) ∧ Hid ((0 < i → stands l p tW = false) ∧ (1 < i → stands l p fW = false) ∧ (2 < i → stands l p nW = false)) ∧ ∃ n, wr = w.drewN n) (fun k _ => 3 - (intOf k).toNat)
  case atStart => exact ⟨0, by omega, rfl, hide ⟨fun h => by omega, fun h => by omega, fun h => by omega⟩, 0, rfl⟩
  case round =>
    obtain ⟨i, hi, rfl, A, m, rfl⟩ := hrel
    by_cases hin : i < 3
    · have hi2 : i = 0 ∨ i = 1 ∨ i = 2 := by omega
      rcases hi2 with rfl | rfl | rfl
      · have ix := ix0
        by_cases hs : p + 4 ≤ l.length
        · rcases unhide ha with ha2 | rfl
          · omega
          have cv := conv w g p 4 (c - p) l (unhide hc) hs
          have sl := Lib.run_slice_window (P := Try.prog) (w.drewN m) 22 5 Try.underlying22 (fun w => by kernel_rfl) g 0 l.length c p (p + 4) (by omega) (by omega)
          rw [Nat.zero_add, show p + 4 - p = 4 by omega, show ((p + 4 : Nat) : Int) = (p : Int) + 4 by omega] at sl
          have hd : decide ((p : Int) + 4 ≤ (l.length : Int)) = true := by simp; omega
          have ns := nums_stands (l := l) (p := p) (k := tW) (unhide hB) bT hs
          rw [sT] at ns
          by_cases hw : stands l p tW = true
          · have T := hide hw
            have e1 : strOfNums (nums l p 4) = ⟨#[116, 114, 117, 101]⟩ := ns.2 hw
            rw [e1] at cv
            clear hw e1 ns
            go_wp2
            go_quiet (fail)
            go_wp2
            go_ret2
            refine .inr ⟨hide ?_, ret_two (wd_t (unhide T)).symm, _, set_int ?_⟩
            · rw [wd_t (unhide T)]; exact fun h => absurd (congrArg ByteArray.size h) (by decide)
            · rw [wd_t (unhide T)]; show _ = ((p + 4 : Nat) : Int); omega
          · have hw2 : stands l p tW = false := by simpa using hw
            have T := hide hw2
            obtain ⟨s4, hs4⟩ : ∃ x, x = strOfNums (nums l p 4) := ⟨_, rfl⟩
            have hne : s4 ≠ ⟨#[116, 114, 117, 101]⟩ := by rw [hs4]; exact fun h => hw (ns.1 h)
            have heq : (s4.toList == ([116, 114, 117, 101] : List UInt8)) = false := beqL hne
            rw [← hs4] at cv
            clear hw hw2 ns hs4 hne
            go_wp2
            go_quiet (fail)
            go_wp2
            go_roundw
            case rel => exact ⟨1, by omega, by go_num, hide ⟨fun h => unhide T, fun h => by omega, fun h => by omega⟩, _, by first | rfl | exact drewN_drewN _ _ _⟩
            case measure => simp [intOf]
        · have hd : decide ((p : Int) + 4 ≤ (l.length : Int)) = false := by simp; omega
          have T := hide (stands_short (l := l) (p := p) (k := tW) (show l.length < p + 4 by omega))
          go_wp2
          go_quiet (fail)
          go_wp2
          go_roundw
          case rel => exact ⟨1, by omega, by go_num, hide ⟨fun h => unhide T, fun h => by omega, fun h => by omega⟩, _, by first | rfl | exact drewN_drewN _ _ _⟩
          case measure => simp [intOf]
      · have ix := ix1
        by_cases hs : p + 5 ≤ l.length
        · rcases unhide ha with ha2 | rfl
          · omega
          have cv := conv w g p 5 (c - p) l (unhide hc) hs
          have sl := Lib.run_slice_window (P := Try.prog) (w.drewN m) 22 5 Try.underlying22 (fun w => by kernel_rfl) g 0 l.length c p (p + 5) (by omega) (by omega)
          rw [Nat.zero_add, show p + 5 - p = 5 by omega, show ((p + 5 : Nat) : Int) = (p : Int) + 5 by omega] at sl
          have hd : decide ((p : Int) + 5 ≤ (l.length : Int)) = true := by simp; omega
          have ns := nums_stands (l := l) (p := p) (k := fW) (unhide hB) bF hs
          rw [sF] at ns
          by_cases hw : stands l p fW = true
          · have T := hide hw
            have e1 : strOfNums (nums l p 5) = ⟨#[102, 97, 108, 115, 101]⟩ := ns.2 hw
            rw [e1] at cv
            clear hw e1 ns
            go_wp2
            go_quiet (fail)
            go_wp2
            go_ret2
            refine .inr ⟨hide ?_, ret_two (wd_f (unhide T)).symm, _, set_int ?_⟩
            · rw [wd_f (unhide T)]; exact fun h => absurd (congrArg ByteArray.size h) (by decide)
            · rw [wd_f (unhide T)]; show _ = ((p + 5 : Nat) : Int); omega
          · have hw2 : stands l p fW = false := by simpa using hw
            have T := hide hw2
            obtain ⟨s4, hs4⟩ : ∃ x, x = strOfNums (nums l p 5) := ⟨_, rfl⟩
            have hne : s4 ≠ ⟨#[102, 97, 108, 115, 101]⟩ := by rw [hs4]; exact fun h => hw (ns.1 h)
            have heq : (s4.toList == ([102, 97, 108, 115, 101] : List UInt8)) = false := beqL hne
            rw [← hs4] at cv
            clear hw hw2 ns hs4 hne
            go_wp2
            go_quiet (fail)
            go_wp2
            go_roundw
            case rel => exact ⟨2, by omega, by go_num, hide ⟨fun h => (unhide A).1 (by omega), fun h => unhide T, fun h => by omega⟩, _, by first | rfl | exact drewN_drewN _ _ _⟩
            case measure => simp [intOf]
        · have hd : decide ((p : Int) + 5 ≤ (l.length : Int)) = false := by simp; omega
          have T := hide (stands_short (l := l) (p := p) (k := fW) (show l.length < p + 5 by omega))
          go_wp2
          go_quiet (fail)
          go_wp2
          go_roundw
          case rel => exact ⟨2, by omega, by go_num, hide ⟨fun h => (unhide A).1 (by omega), fun h => unhide T, fun h => by omega⟩, _, by first | rfl | exact drewN_drewN _ _ _⟩
          case measure => simp [intOf]
      · have ix := ix2
        by_cases hs : p + 4 ≤ l.length
        · rcases unhide ha with ha2 | rfl
          · omega
          have cv := conv w g p 4 (c - p) l (unhide hc) hs
          have sl := Lib.run_slice_window (P := Try.prog) (w.drewN m) 22 5 Try.underlying22 (fun w => by kernel_rfl) g 0 l.length c p (p + 4) (by omega) (by omega)
          rw [Nat.zero_add, show p + 4 - p = 4 by omega, show ((p + 4 : Nat) : Int) = (p : Int) + 4 by omega] at sl
          have hd : decide ((p : Int) + 4 ≤ (l.length : Int)) = true := by simp; omega
          have ns := nums_stands (l := l) (p := p) (k := nW) (unhide hB) bN hs
          rw [sN] at ns
          by_cases hw : stands l p nW = true
          · have T := hide hw
            have e1 : strOfNums (nums l p 4) = ⟨#[110, 117, 108, 108]⟩ := ns.2 hw
            rw [e1] at cv
            clear hw e1 ns
            go_wp2
            go_quiet (fail)
            go_wp2
            go_ret2
            refine .inr ⟨hide ?_, ret_two (wd_n (unhide T)).symm, _, set_int ?_⟩
            · rw [wd_n (unhide T)]; exact fun h => absurd (congrArg ByteArray.size h) (by decide)
            · rw [wd_n (unhide T)]; show _ = ((p + 4 : Nat) : Int); omega
          · have hw2 : stands l p nW = false := by simpa using hw
            have T := hide hw2
            obtain ⟨s4, hs4⟩ : ∃ x, x = strOfNums (nums l p 4) := ⟨_, rfl⟩
            have hne : s4 ≠ ⟨#[110, 117, 108, 108]⟩ := by rw [hs4]; exact fun h => hw (ns.1 h)
            have heq : (s4.toList == ([110, 117, 108, 108] : List UInt8)) = false := beqL hne
            rw [← hs4] at cv
            clear hw hw2 ns hs4 hne
            go_wp2
            go_quiet (fail)
            go_wp2
            go_roundw
            case rel => exact ⟨3, by omega, by go_num, hide ⟨fun h => (unhide A).1 (by omega), fun h => (unhide A).2.1 (by omega), fun h => unhide T⟩, _, by first | rfl | exact drewN_drewN _ _ _⟩
            case measure => simp [intOf]
        · have hd : decide ((p : Int) + 4 ≤ (l.length : Int)) = false := by simp; omega
          have T := hide (stands_short (l := l) (p := p) (k := nW) (show l.length < p + 4 by omega))
          go_wp2
          go_quiet (fail)
          go_wp2
          go_roundw
          case rel => exact ⟨3, by omega, by go_num, hide ⟨fun h => (unhide A).1 (by omega), fun h => (unhide A).2.1 (by omega), fun h => unhide T⟩, _, by first | rfl | exact drewN_drewN _ _ _⟩
          case measure => simp [intOf]
    · obtain rfl : i = 3 := by omega
      go_wp2
      go_ret2
      exact .inl ⟨hide (wd_none ((unhide A).1 (by omega)) ((unhide A).2.1 (by omega)) ((unhide A).2.2 (by omega))), rfl, _, rfl⟩
end Go.Proofs.Qxb6626345a
