import Derived.Test.Qxb6626345aRows
import Derived.WalkKit
import Derived.ProofKit
import Derived.OpenShut
import Derived.Below
import Derived.WalkSpells
import Derived.RegionTactic
import Derived.Deep.QuietTactic
import Derived.BigQuiet
import Derived.Deep.LoopGhost
import Derived.Lib.SlBytesRow
namespace Go.Proofs.Qxb6626345a
open Go.ChangeShapes Go.WideShapes Go.ChangeAt Go.RowKit
set_option linter.unusedVariables false
set_option linter.unusedSimpArgs false

theorem hide {p : Prop} (h : p) : Hid p := h
theorem unhide {p : Prop} (h : Hid p) : p := h
theorem below_drewN {B : Nat} {a w : World} (h : Below B a w) (n : Nat) : Below B a (w.drewN n) := by
  have e : (w.drewN n).heap = w.heap := by simp [World.drewN]
  exact ⟨h.os, h.tape, h.output, by rw [e]; exact h.size, fun k hk => by rw [e]; exact h.block k hk⟩
theorem below_step {B : Nat} {a w w' : World} (h : Below B a w) (hB : B ≤ w.heap.size) (k : Below w.heap.size w w') : Below B a w' := h.trans (k.mono hB)
theorem drewN_drewN (w : World) (a b : Nat) : (w.drewN a).drewN b = w.drewN (a + b) := by simp

def at0 (l : List Int) (i : Nat) : Int := l[i]?.getD 0

/-- A slice of bytes, as a walk sees it. -/
def Byts (w : World) (a : Option Addr) (l : List Int) : Prop :=
  l = [] ∨ ∃ b off, a = some ⟨b, off, none⟩ ∧ ∀ i, i < l.length → w.cell? ⟨b, off + i, none⟩ = some (.int .u8 (at0 l i))
theorem Byts.get {w : World} {a : Option Addr} {l : List Int} (h : Byts w a l) (hl : 0 < l.length) : ∃ b off, a = some ⟨b, off, none⟩ ∧ ∀ i, i < l.length → w.cell? ⟨b, off + i, none⟩ = some (.int .u8 (at0 l i)) := by
  rcases h with rfl | h
  · simp at hl
  · exact h
theorem Byts.below {w w' : World} {a : Option Addr} {l : List Int} (h : Byts w a l) (hb : Below w.heap.size w w') : Byts w' a l := by
  rcases h with h | ⟨b, off, rfl, hc⟩
  · exact .inl h
  · exact .inr ⟨b, off, rfl, fun i hi => (hb.cell (World.block_lt_of_cell? w _ (hc i hi))).trans (hc i hi)⟩
theorem Byts.drewN {w : World} {a : Option Addr} {l : List Int} (h : Byts w a l) (n : Nat) : Byts (w.drewN n) a l := h.below (below_drewN (Below.refl _ _) n)

/-! the words -/
def tW : List Int := [116, 114, 117, 101]
def fW : List Int := [102, 97, 108, 115, 101]
def nW : List Int := [110, 117, 108, 108]
def stands (l : List Int) (p : Nat) (k : List Int) : Bool := decide (p + k.length ≤ l.length ∧ ∀ j, j < k.length → at0 l (p + j) = at0 k j)
def wd (l : List Int) (p : Nat) : ByteArray :=
  if stands l p tW then ⟨#[116, 114, 117, 101]⟩ else if stands l p fW then ⟨#[102, 97, 108, 115, 101]⟩ else if stands l p nW then ⟨#[110, 117, 108, 108]⟩ else ⟨#[]⟩
theorem stands_at {l : List Int} {p : Nat} {k : List Int} (h : stands l p k = true) : p + k.length ≤ l.length ∧ ∀ j, j < k.length → at0 l (p + j) = at0 k j := by simpa [stands] using h
theorem stands_of {l : List Int} {p : Nat} {k : List Int} (h : p + k.length ≤ l.length) (h2 : ∀ j, j < k.length → at0 l (p + j) = at0 k j) : stands l p k = true := by simp [stands, h]; exact h2
theorem stands_not {l : List Int} {p : Nat} {k : List Int} (h : ¬ (p + k.length ≤ l.length ∧ ∀ j, j < k.length → at0 l (p + j) = at0 k j)) : stands l p k = false := by
  cases e : stands l p k with
  | false => rfl
  | true => exact absurd (stands_at e) h
theorem stands_first {l : List Int} {p : Nat} {k : List Int} (hk : 0 < k.length) (h : at0 l p ≠ at0 k 0) : stands l p k = false := stands_not fun ⟨_, a⟩ => h (by simpa using a 0 hk)
theorem stands_short {l : List Int} {p : Nat} {k : List Int} (h : l.length < p + k.length) : stands l p k = false := stands_not fun ⟨a, _⟩ => by omega
theorem stands_miss {l : List Int} {p : Nat} {k : List Int} (j : Nat) (hj : j < k.length) (h : at0 l (p + j) ≠ at0 k j) : stands l p k = false := stands_not fun ⟨_, a⟩ => h (a j hj)
theorem wd_t {l : List Int} {p : Nat} (h : stands l p tW = true) : wd l p = ⟨#[116, 114, 117, 101]⟩ := by simp [wd, h]
theorem wd_f {l : List Int} {p : Nat} (h : stands l p fW = true) : wd l p = ⟨#[102, 97, 108, 115, 101]⟩ := by
  have h0 := (stands_at h).2 0 (by decide)
  have ht : stands l p tW = false := stands_first (by decide) (by rw [Nat.add_zero] at h0; rw [h0]; decide)
  simp [wd, h, ht]
theorem wd_n {l : List Int} {p : Nat} (h : stands l p nW = true) : wd l p = ⟨#[110, 117, 108, 108]⟩ := by
  have h0 := (stands_at h).2 0 (by decide)
  have ht : stands l p tW = false := stands_first (by decide) (by rw [Nat.add_zero] at h0; rw [h0]; decide)
  have hf : stands l p fW = false := stands_first (by decide) (by rw [Nat.add_zero] at h0; rw [h0]; decide)
  simp [wd, h, ht, hf]
theorem wd_none {l : List Int} {p : Nat} (ht : stands l p tW = false) (hf : stands l p fW = false) (hn : stands l p nW = false) : wd l p = ⟨#[]⟩ := by simp [wd, ht, hf, hn]
theorem wd_out {l : List Int} {p : Nat} (h : l.length ≤ p) : wd l p = ⟨#[]⟩ :=
  wd_none (stands_short (by simp [tW]; omega)) (stands_short (by simp [fW]; omega)) (stands_short (by simp [nW]; omega))

theorem ret_str {a b : ByteArray} (h : a = b) : Ending.returned (.string a) = .returned (.string b) := by rw [h]

set_option maxHeartbeats 4000000 in
theorem wordAt (w : World) (a : Option Addr) (c : Nat) (l : List Int) (p : Nat) (h : Byts w a l) (hl : l.length ≤ 1048576) (hp : p ≤ 3145728) :
    Calls Try.prog 7 #[.slice a l.length c, .int .i64 (p : Int)] w fun e w' => e = .returned (.string (wd l p)) ∧ ∃ n, w' = w.drewN n := by
  by_cases hout : l.length ≤ p
  · go_enter Try.func7, Try.ntmps7
    go_wp2
    go_ret
    exact ⟨ret_str (wd_out hout).symm, 0, rfl⟩
  obtain ⟨b, off, rfl, hc0⟩ := h.get (by omega)
  have hc := hide hc0
  have hp0 := hc0 p (by omega)
  clear hc0 h
  by_cases ht : at0 l p = 116
  · have F := hide (stands_first (l := l) (p := p) (k := fW) (by decide) (by rw [ht]; decide))
    have N := hide (stands_first (l := l) (p := p) (k := nW) (by decide) (by rw [ht]; decide))
    have A0 := hide ht
    rw [ht] at hp0
    clear ht
    by_cases hs : l.length < p + 4
    · have T := hide (stands_short (l := l) (p := p) (k := tW) hs)
      clear hc
      go_enter Try.func7, Try.ntmps7
      go_wp2
      go_ret
      exact ⟨ret_str (by simp [wd, unhide F, unhide N, unhide T]), 0, rfl⟩
    · go_enter Try.func7, Try.ntmps7
      go_wp2
      go_loopw [6] (fun k wr => ∃ i : Nat, i ≤ 4 ∧ k = .int .i64 (i : Int) ∧ Hid (∀ j, j < i → at0 l (p + j) = at0 tW j) ∧ ∃ n, wr = w.drewN n) (fun k _ => 4 - (intOf k).toNat)
      case atStart => exact ⟨0, by omega, rfl, hide (fun j hj => by omega), 0, rfl⟩
      case round =>
        obtain ⟨i, hi, rfl, A, m, rfl⟩ := hrel
        by_cases hin : i < 4
        · have hcell := unhide hc (p + i) (by omega)
          have hi2 : i = 0 ∨ i = 1 ∨ i = 2 ∨ i = 3 := by omega
          rcases hi2 with rfl | rfl | rfl | rfl
          · by_cases hx : at0 l (p + 0) = 116
            · rw [hx] at hcell
              have A1 := hide hx
              clear hx
              go_wp2
              go_quiet (fail)
              go_wp2
              go_roundw
              case rel => exact ⟨1, by omega, by go_num, hide (fun j hj => by
                by_cases hj2 : j < 0
                · exact unhide A j hj2
                · obtain rfl : j = 0 := by omega
                  exact unhide A1), _, by first | rfl | exact drewN_drewN _ _ _⟩
              case measure => simp [intOf]
            · exact absurd (unhide A0) (by simpa using hx)
          · by_cases hx : at0 l (p + 1) = 114
            · rw [hx] at hcell
              have A1 := hide hx
              clear hx
              go_wp2
              go_quiet (fail)
              go_wp2
              go_roundw
              case rel => exact ⟨2, by omega, by go_num, hide (fun j hj => by
                by_cases hj2 : j < 1
                · exact unhide A j hj2
                · obtain rfl : j = 1 := by omega
                  exact unhide A1), _, by first | rfl | exact drewN_drewN _ _ _⟩
              case measure => simp [intOf]
            · have T := hide (stands_miss (l := l) (p := p) (k := tW) 1 (by decide) hx)
              have hx2 : (at0 l (p + 1) != ((⟨#[116, 114, 117, 101]⟩ : ByteArray)[1].toNat : Int)) = true := by simp only [bne_iff_ne]; exact hx
              clear hx
              go_wp2
              go_quiet (fail)
              go_wp2
              go_ret
              exact ⟨ret_str (by simp [wd, unhide F, unhide N, unhide T]), _, by first | rfl | exact drewN_drewN _ _ _⟩
          · by_cases hx : at0 l (p + 2) = 117
            · rw [hx] at hcell
              have A1 := hide hx
              clear hx
              go_wp2
              go_quiet (fail)
              go_wp2
              go_roundw
              case rel => exact ⟨3, by omega, by go_num, hide (fun j hj => by
                by_cases hj2 : j < 2
                · exact unhide A j hj2
                · obtain rfl : j = 2 := by omega
                  exact unhide A1), _, by first | rfl | exact drewN_drewN _ _ _⟩
              case measure => simp [intOf]
            · have T := hide (stands_miss (l := l) (p := p) (k := tW) 2 (by decide) hx)
              have hx2 : (at0 l (p + 2) != ((⟨#[116, 114, 117, 101]⟩ : ByteArray)[2].toNat : Int)) = true := by simp only [bne_iff_ne]; exact hx
              clear hx
              go_wp2
              go_quiet (fail)
              go_wp2
              go_ret
              exact ⟨ret_str (by simp [wd, unhide F, unhide N, unhide T]), _, by first | rfl | exact drewN_drewN _ _ _⟩
          · by_cases hx : at0 l (p + 3) = 101
            · rw [hx] at hcell
              have A1 := hide hx
              clear hx
              go_wp2
              go_quiet (fail)
              go_wp2
              go_roundw
              case rel => exact ⟨4, by omega, by go_num, hide (fun j hj => by
                by_cases hj2 : j < 3
                · exact unhide A j hj2
                · obtain rfl : j = 3 := by omega
                  exact unhide A1), _, by first | rfl | exact drewN_drewN _ _ _⟩
              case measure => simp [intOf]
            · have T := hide (stands_miss (l := l) (p := p) (k := tW) 3 (by decide) hx)
              have hx2 : (at0 l (p + 3) != ((⟨#[116, 114, 117, 101]⟩ : ByteArray)[3].toNat : Int)) = true := by simp only [bne_iff_ne]; exact hx
              clear hx
              go_wp2
              go_quiet (fail)
              go_wp2
              go_ret
              exact ⟨ret_str (by simp [wd, unhide F, unhide N, unhide T]), _, by first | rfl | exact drewN_drewN _ _ _⟩
        · obtain rfl : i = 4 := by omega
          have T := hide (stands_of (l := l) (p := p) (k := tW) (show p + 4 ≤ l.length by omega) (unhide A))
          go_wp2
          go_ret
          exact ⟨ret_str (wd_t (unhide T)).symm, _, rfl⟩
  by_cases hf : at0 l p = 102
  · have F := hide (stands_first (l := l) (p := p) (k := tW) (by decide) (by rw [hf]; decide))
    have N := hide (stands_first (l := l) (p := p) (k := nW) (by decide) (by rw [hf]; decide))
    have A0 := hide hf
    rw [hf] at hp0
    clear hf
    by_cases hs : l.length < p + 5
    · have T := hide (stands_short (l := l) (p := p) (k := fW) hs)
      clear hc
      go_enter Try.func7, Try.ntmps7
      go_wp2
      go_ret
      exact ⟨ret_str (by simp [wd, unhide F, unhide N, unhide T]), 0, rfl⟩
    · go_enter Try.func7, Try.ntmps7
      go_wp2
      go_loopw [6] (fun k wr => ∃ i : Nat, i ≤ 5 ∧ k = .int .i64 (i : Int) ∧ Hid (∀ j, j < i → at0 l (p + j) = at0 fW j) ∧ ∃ n, wr = w.drewN n) (fun k _ => 5 - (intOf k).toNat)
      case atStart => exact ⟨0, by omega, rfl, hide (fun j hj => by omega), 0, rfl⟩
      case round =>
        obtain ⟨i, hi, rfl, A, m, rfl⟩ := hrel
        by_cases hin : i < 5
        · have hcell := unhide hc (p + i) (by omega)
          have hi2 : i = 0 ∨ i = 1 ∨ i = 2 ∨ i = 3 ∨ i = 4 := by omega
          rcases hi2 with rfl | rfl | rfl | rfl | rfl
          · by_cases hx : at0 l (p + 0) = 102
            · rw [hx] at hcell
              have A1 := hide hx
              clear hx
              go_wp2
              go_quiet (fail)
              go_wp2
              go_roundw
              case rel => exact ⟨1, by omega, by go_num, hide (fun j hj => by
                by_cases hj2 : j < 0
                · exact unhide A j hj2
                · obtain rfl : j = 0 := by omega
                  exact unhide A1), _, by first | rfl | exact drewN_drewN _ _ _⟩
              case measure => simp [intOf]
            · exact absurd (unhide A0) (by simpa using hx)
          · by_cases hx : at0 l (p + 1) = 97
            · rw [hx] at hcell
              have A1 := hide hx
              clear hx
              go_wp2
              go_quiet (fail)
              go_wp2
              go_roundw
              case rel => exact ⟨2, by omega, by go_num, hide (fun j hj => by
                by_cases hj2 : j < 1
                · exact unhide A j hj2
                · obtain rfl : j = 1 := by omega
                  exact unhide A1), _, by first | rfl | exact drewN_drewN _ _ _⟩
              case measure => simp [intOf]
            · have T := hide (stands_miss (l := l) (p := p) (k := fW) 1 (by decide) hx)
              have hx2 : (at0 l (p + 1) != ((⟨#[102, 97, 108, 115, 101]⟩ : ByteArray)[1].toNat : Int)) = true := by simp only [bne_iff_ne]; exact hx
              clear hx
              go_wp2
              go_quiet (fail)
              go_wp2
              go_ret
              exact ⟨ret_str (by simp [wd, unhide F, unhide N, unhide T]), _, by first | rfl | exact drewN_drewN _ _ _⟩
          · by_cases hx : at0 l (p + 2) = 108
            · rw [hx] at hcell
              have A1 := hide hx
              clear hx
              go_wp2
              go_quiet (fail)
              go_wp2
              go_roundw
              case rel => exact ⟨3, by omega, by go_num, hide (fun j hj => by
                by_cases hj2 : j < 2
                · exact unhide A j hj2
                · obtain rfl : j = 2 := by omega
                  exact unhide A1), _, by first | rfl | exact drewN_drewN _ _ _⟩
              case measure => simp [intOf]
            · have T := hide (stands_miss (l := l) (p := p) (k := fW) 2 (by decide) hx)
              have hx2 : (at0 l (p + 2) != ((⟨#[102, 97, 108, 115, 101]⟩ : ByteArray)[2].toNat : Int)) = true := by simp only [bne_iff_ne]; exact hx
              clear hx
              go_wp2
              go_quiet (fail)
              go_wp2
              go_ret
              exact ⟨ret_str (by simp [wd, unhide F, unhide N, unhide T]), _, by first | rfl | exact drewN_drewN _ _ _⟩
          · by_cases hx : at0 l (p + 3) = 115
            · rw [hx] at hcell
              have A1 := hide hx
              clear hx
              go_wp2
              go_quiet (fail)
              go_wp2
              go_roundw
              case rel => exact ⟨4, by omega, by go_num, hide (fun j hj => by
                by_cases hj2 : j < 3
                · exact unhide A j hj2
                · obtain rfl : j = 3 := by omega
                  exact unhide A1), _, by first | rfl | exact drewN_drewN _ _ _⟩
              case measure => simp [intOf]
            · have T := hide (stands_miss (l := l) (p := p) (k := fW) 3 (by decide) hx)
              have hx2 : (at0 l (p + 3) != ((⟨#[102, 97, 108, 115, 101]⟩ : ByteArray)[3].toNat : Int)) = true := by simp only [bne_iff_ne]; exact hx
              clear hx
              go_wp2
              go_quiet (fail)
              go_wp2
              go_ret
              exact ⟨ret_str (by simp [wd, unhide F, unhide N, unhide T]), _, by first | rfl | exact drewN_drewN _ _ _⟩
          · by_cases hx : at0 l (p + 4) = 101
            · rw [hx] at hcell
              have A1 := hide hx
              clear hx
              go_wp2
              go_quiet (fail)
              go_wp2
              go_roundw
              case rel => exact ⟨5, by omega, by go_num, hide (fun j hj => by
                by_cases hj2 : j < 4
                · exact unhide A j hj2
                · obtain rfl : j = 4 := by omega
                  exact unhide A1), _, by first | rfl | exact drewN_drewN _ _ _⟩
              case measure => simp [intOf]
            · have T := hide (stands_miss (l := l) (p := p) (k := fW) 4 (by decide) hx)
              have hx2 : (at0 l (p + 4) != ((⟨#[102, 97, 108, 115, 101]⟩ : ByteArray)[4].toNat : Int)) = true := by simp only [bne_iff_ne]; exact hx
              clear hx
              go_wp2
              go_quiet (fail)
              go_wp2
              go_ret
              exact ⟨ret_str (by simp [wd, unhide F, unhide N, unhide T]), _, by first | rfl | exact drewN_drewN _ _ _⟩
        · obtain rfl : i = 5 := by omega
          have T := hide (stands_of (l := l) (p := p) (k := fW) (show p + 5 ≤ l.length by omega) (unhide A))
          go_wp2
          go_ret
          exact ⟨ret_str (wd_f (unhide T)).symm, _, rfl⟩
  by_cases hn : at0 l p = 110
  · have F := hide (stands_first (l := l) (p := p) (k := tW) (by decide) (by rw [hn]; decide))
    have N := hide (stands_first (l := l) (p := p) (k := fW) (by decide) (by rw [hn]; decide))
    have A0 := hide hn
    rw [hn] at hp0
    clear hn
    by_cases hs : l.length < p + 4
    · have T := hide (stands_short (l := l) (p := p) (k := nW) hs)
      clear hc
      go_enter Try.func7, Try.ntmps7
      go_wp2
      go_ret
      exact ⟨ret_str (by simp [wd, unhide F, unhide N, unhide T]), 0, rfl⟩
    · go_enter Try.func7, Try.ntmps7
      go_wp2
      go_loopw [6] (fun k wr => ∃ i : Nat, i ≤ 4 ∧ k = .int .i64 (i : Int) ∧ Hid (∀ j, j < i → at0 l (p + j) = at0 nW j) ∧ ∃ n, wr = w.drewN n) (fun k _ => 4 - (intOf k).toNat)
      case atStart => exact ⟨0, by omega, rfl, hide (fun j hj => by omega), 0, rfl⟩
      case round =>
        obtain ⟨i, hi, rfl, A, m, rfl⟩ := hrel
        by_cases hin : i < 4
        · have hcell := unhide hc (p + i) (by omega)
          have hi2 : i = 0 ∨ i = 1 ∨ i = 2 ∨ i = 3 := by omega
          rcases hi2 with rfl | rfl | rfl | rfl
          · by_cases hx : at0 l (p + 0) = 110
            · rw [hx] at hcell
              have A1 := hide hx
              clear hx
              go_wp2
              go_quiet (fail)
              go_wp2
              go_roundw
              case rel => exact ⟨1, by omega, by go_num, hide (fun j hj => by
                by_cases hj2 : j < 0
                · exact unhide A j hj2
                · obtain rfl : j = 0 := by omega
                  exact unhide A1), _, by first | rfl | exact drewN_drewN _ _ _⟩
              case measure => simp [intOf]
            · exact absurd (unhide A0) (by simpa using hx)
          · by_cases hx : at0 l (p + 1) = 117
            · rw [hx] at hcell
              have A1 := hide hx
              clear hx
              go_wp2
              go_quiet (fail)
              go_wp2
              go_roundw
              case rel => exact ⟨2, by omega, by go_num, hide (fun j hj => by
                by_cases hj2 : j < 1
                · exact unhide A j hj2
                · obtain rfl : j = 1 := by omega
                  exact unhide A1), _, by first | rfl | exact drewN_drewN _ _ _⟩
              case measure => simp [intOf]
            · have T := hide (stands_miss (l := l) (p := p) (k := nW) 1 (by decide) hx)
              have hx2 : (at0 l (p + 1) != ((⟨#[110, 117, 108, 108]⟩ : ByteArray)[1].toNat : Int)) = true := by simp only [bne_iff_ne]; exact hx
              clear hx
              go_wp2
              go_quiet (fail)
              go_wp2
              go_ret
              exact ⟨ret_str (by simp [wd, unhide F, unhide N, unhide T]), _, by first | rfl | exact drewN_drewN _ _ _⟩
          · by_cases hx : at0 l (p + 2) = 108
            · rw [hx] at hcell
              have A1 := hide hx
              clear hx
              go_wp2
              go_quiet (fail)
              go_wp2
              go_roundw
              case rel => exact ⟨3, by omega, by go_num, hide (fun j hj => by
                by_cases hj2 : j < 2
                · exact unhide A j hj2
                · obtain rfl : j = 2 := by omega
                  exact unhide A1), _, by first | rfl | exact drewN_drewN _ _ _⟩
              case measure => simp [intOf]
            · have T := hide (stands_miss (l := l) (p := p) (k := nW) 2 (by decide) hx)
              have hx2 : (at0 l (p + 2) != ((⟨#[110, 117, 108, 108]⟩ : ByteArray)[2].toNat : Int)) = true := by simp only [bne_iff_ne]; exact hx
              clear hx
              go_wp2
              go_quiet (fail)
              go_wp2
              go_ret
              exact ⟨ret_str (by simp [wd, unhide F, unhide N, unhide T]), _, by first | rfl | exact drewN_drewN _ _ _⟩
          · by_cases hx : at0 l (p + 3) = 108
            · rw [hx] at hcell
              have A1 := hide hx
              clear hx
              go_wp2
              go_quiet (fail)
              go_wp2
              go_roundw
              case rel => exact ⟨4, by omega, by go_num, hide (fun j hj => by
                by_cases hj2 : j < 3
                · exact unhide A j hj2
                · obtain rfl : j = 3 := by omega
                  exact unhide A1), _, by first | rfl | exact drewN_drewN _ _ _⟩
              case measure => simp [intOf]
            · have T := hide (stands_miss (l := l) (p := p) (k := nW) 3 (by decide) hx)
              have hx2 : (at0 l (p + 3) != ((⟨#[110, 117, 108, 108]⟩ : ByteArray)[3].toNat : Int)) = true := by simp only [bne_iff_ne]; exact hx
              clear hx
              go_wp2
              go_quiet (fail)
              go_wp2
              go_ret
              exact ⟨ret_str (by simp [wd, unhide F, unhide N, unhide T]), _, by first | rfl | exact drewN_drewN _ _ _⟩
        · obtain rfl : i = 4 := by omega
          have T := hide (stands_of (l := l) (p := p) (k := nW) (show p + 4 ≤ l.length by omega) (unhide A))
          go_wp2
          go_ret
          exact ⟨ret_str (wd_n (unhide T)).symm, _, rfl⟩
  have T := hide (stands_first (l := l) (p := p) (k := tW) (by decide) ht)
  have F := hide (stands_first (l := l) (p := p) (k := fW) (by decide) hf)
  have N := hide (stands_first (l := l) (p := p) (k := nW) (by decide) hn)
  have x1 : (at0 l p == 116) = false := by simpa using ht
  have x2 : (at0 l p == 102) = false := by simpa using hf
  have x3 : (at0 l p == 110) = false := by simpa using hn
  clear ht hf hn hc
  go_enter Try.func7, Try.ntmps7
  go_wp2
  go_ret
  exact ⟨ret_str (wd_none (unhide T) (unhide F) (unhide N)).symm, 0, rfl⟩
end Go.Proofs.Qxb6626345a
