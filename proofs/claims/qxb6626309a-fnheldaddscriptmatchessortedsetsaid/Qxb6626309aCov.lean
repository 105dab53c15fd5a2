import Derived.Test.Qxb6626309aInsr
namespace Go.Proofs.Qxb6626309a
open Go.ChangeShapes Go.WideShapes Go.ChangeAt Go.RowKit
set_option linter.unusedVariables false
set_option linter.unusedSimpArgs false

theorem Fits.u {l : List Rg} {m : IdL} (F : Fits l m) {k : Nat} (hk : k < m.length) : 1 ≤ nA m k ∧ nA m k ≤ 18446744073709551615 := by
  obtain ⟨r, h1, h2, h3, h4⟩ := F.of hk
  have := F.good.rng r h1
  omega

set_option maxHeartbeats 1000000 in
set_option maxRecDepth 100000 in
theorem cover_any (w : World) (base : Nat) (a b : Option Addr) (c d : Nat) (l : List Rg) (m : IdL) (rs : RSl w base (.slice a l.length c) l) (h : Ids w b m) (F : Hid (Fits l m)) (hl : l.length ≤ 8192) (hm : m.length ≤ 4096) :
    Calls Try.prog 9 #[.slice a l.length c, .slice b m.length d] w fun e w' => e = .returned (.bool true) ∧ Below w.heap.size w w' := by
  go_enter Try.func9, Try.ntmps9
  go_wp2
  go_loopw [5, 6] (fun rv kv wr => ∃ r k q : Nat, r ≤ l.length ∧ k ≤ m.length ∧ rv = .int .i64 (r : Int) ∧ kv = .int .i64 (k : Int) ∧ Hid (CovAt l m r k) ∧ wr = w.drewN q) (fun rv kv _ => m.length - (intOf kv).toNat)
  case atStart => exact ⟨0, 0, 0, Nat.zero_le _, Nat.zero_le _, rfl, rfl, hide (unhide F).start, rfl⟩
  case round =>
    obtain ⟨r, k, q, hr, hk, rfl, rfl, C, rfl⟩ := hrel
    by_cases hkm : k < m.length
    · obtain ⟨b, off, rfl, hc⟩ := h.get (by omega)
      obtain ⟨rl, es, ef⟩ := (unhide C).go hkm
      have hc' := hide hc
      have M0 : m.length ≤ 4096 := hm
      have I0 := hide ((unhide C).inn (unhide F) hkm)
      obtain ⟨G, cap, e1, R⟩ := rs.some_of (by omega)
      simp only [Value.slice.injEq, true_and] at e1
      obtain ⟨rfl, rfl⟩ := e1
      obtain ⟨x0, x1, x2⟩ := R.cells rl
      obtain ⟨y0, y1⟩ := hc k hkm
      rw [← es] at x0
      rw [← ef] at x1
      clear hc es ef
      go_wp2
      go_loopw [6] (fun kv wr => ∃ k' q : Nat, k ≤ k' ∧ k' < m.length ∧ kv = .int .i64 (k' : Int) ∧ Hid (Inn l m r k') ∧ wr = w.drewN q) (fun kv _ => m.length - (intOf kv).toNat)
      case atStart => exact ⟨k, q, Nat.le_refl _, hkm, rfl, I0, rfl⟩
      case round =>
        obtain ⟨k', q', hkk, hkm', rfl, I, rfl⟩ := hrel
        obtain ⟨z0, z1⟩ := unhide hc' k' hkm'
        obtain ⟨u1, u2⟩ := (unhide F).u hkm'
        by_cases hlt : nA m k' < lR l r
        · obtain ⟨j1, j2, j3, J⟩ := (unhide I).step (unhide F) hlt
          obtain ⟨v0, v1⟩ := unhide hc' (k' + 1) j1
          obtain ⟨u3, u4⟩ := (unhide F).u j1
          rw [j2] at v0
          rw [j3] at v1 u4
          have J' := hide J
          clear j2 j3 J hlt
          obtain ⟨iv, hiv⟩ : ∃ x, x = iA m k' := ⟨_, rfl⟩
          obtain ⟨nv, hnv⟩ : ∃ x, x = nA m k' := ⟨_, rfl⟩
          rw [← hiv] at z0 v0
          rw [← hnv] at z1 v1 u1 u2 u4
          clear hiv hnv
          have g1 : decide ((k' : Int) + 1 < (m.length : Int)) = true := by simp; omega
          have g2 : (nv + 1 - nv == 1) = true := by simp; omega
          go_wp2
          go_quiet (fail)
          go_wp2
          go_roundw
          case rel => exact ⟨k' + 1, _, by omega, j1, by go_num, J', by first | rfl | exact drewN_drewN _ _ _⟩
          case measure => simp [intOf]; omega
        · have hL := (unhide I).l
          have el : nA m k' = lR l r := by omega
          obtain ⟨st, CN⟩ := (unhide I).stop (unhide F) el
          have CN' := hide CN
          rw [← el] at x2
          have st' := hide st
          clear CN st hlt hL el
          by_cases j1 : k' + 1 < m.length
          · obtain ⟨v0, v1⟩ := unhide hc' (k' + 1) j1
            obtain ⟨u3, u4⟩ := (unhide F).u j1
            have g1 : decide ((k' : Int) + 1 < (m.length : Int)) = true := by simp; omega
            have st2 : iA m (k' + 1) = iA m k' → nA m k' + 1 < nA m (k' + 1) := unhide st' j1
            have lt2 := hide ((unhide F).srt k' (k' + 1) (by omega) j1)
            obtain ⟨iv, hiv⟩ : ∃ x, x = iA m k' := ⟨_, rfl⟩
            obtain ⟨nv, hnv⟩ : ∃ x, x = nA m k' := ⟨_, rfl⟩
            obtain ⟨iv', hiv'⟩ : ∃ x, x = iA m (k' + 1) := ⟨_, rfl⟩
            obtain ⟨nv', hnv'⟩ : ∃ x, x = nA m (k' + 1) := ⟨_, rfl⟩
            rw [← hiv] at z0 st2 lt2
            rw [← hnv] at z1 u1 u2 st2 x2 lt2
            rw [← hiv'] at v0 st2 lt2
            rw [← hnv'] at v1 u3 u4 st2 lt2
            clear hiv hnv hiv' hnv'
            by_cases hi : iv' = iv
            · have st3 := st2 hi
              have g3 : (iv' == iv) = true := by simpa using hi
              have g2 : (nv' - nv == 1) = false := by simp; omega
              clear hi st2
              go_wp2
              go_quiet (fail)
              go_wp2
              go_quiet (fail)
              go_wp2
              go_roundw
              case rel => exact ⟨r + 1, k' + 1, _, by omega, by omega, by go_num, by go_num, CN', by first | rfl | exact drewN_drewN _ _ _⟩
              case measure => simp [intOf]; omega
            · have g3 : (iv' == iv) = false := by simpa using hi
              clear hi st2
              go_wp2
              go_quiet (fail)
              go_wp2
              go_quiet (fail)
              go_wp2
              go_roundw
              case rel => exact ⟨r + 1, k' + 1, _, by omega, by omega, by go_num, by go_num, CN', by first | rfl | exact drewN_drewN _ _ _⟩
              case measure => simp [intOf]; omega
          · have g1 : decide ((k' : Int) + 1 < (m.length : Int)) = false := by simp; omega
            go_wp2
            go_quiet (fail)
            go_wp2
            go_quiet (fail)
            go_wp2
            go_roundw
            case rel => exact ⟨r + 1, k' + 1, _, by omega, by omega, by go_num, by go_num, CN', by first | rfl | exact drewN_drewN _ _ _⟩
            case measure => simp [intOf]; omega
    · obtain rfl : k = m.length := by omega
      obtain rfl := (unhide C).fin rfl
      go_wp2
      go_ret
      exact ⟨rfl, below_drewN (Below.refl _ _) _⟩
end Go.Proofs.Qxb6626309a
