import Derived.Test.Qxb6629367aWalksE
import Derived.Deep.RegionWith
namespace Go.Proofs.Qxb6629367a.W
open Go.RowKit
set_option linter.unusedVariables false
set_option maxRecDepth 100000

theorem below2 {w a b : World} (h : Below w.heap.size w a) (k : Below a.heap.size a b) : Below w.heap.size w b := h.trans (k.mono h.size)

set_option maxHeartbeats 4000000 in
theorem same_at (d a b c : Option Addr) (cd na ca nb cb nc cc n : Nat) (A1 A2 A3 A : Nat → Int) (S1 S2 S3 S : Nat → ByteArray) (P1 P2 P3 P : Nat → Bool) (w : World) (R : FRow w d n A S P) (R1 : FRow w a na A1 S1 P1) (R2 : FRow w b nb A2 S2 P2) (R3 : FRow w c nc A3 S3 P3)
    (hn : na + nb + nc = n) (hm : n ≤ 100000) (h1 : ∀ i, i < na → A i = A1 i ∧ S i = S1 i ∧ P i = P1 i) (h2 : ∀ i, i < nb → A (na + i) = A2 i ∧ S (na + i) = S2 i ∧ P (na + i) = P2 i) (h3 : ∀ i, i < nc → A (na + nb + i) = A3 i ∧ S (na + nb + i) = S3 i ∧ P (na + nb + i) = P3 i) :
    Calls Try.prog 10 #[.slice d n cd, .slice a na ca, .slice b nb cb, .slice c nc cc] w fun e w' => e = .returned (.bool true) ∧ Below w.heap.size w w' := by
  have RR : Aside (FRow w a na A1 S1 P1 ∧ FRow w b nb A2 S2 P2 ∧ FRow w c nc A3 S3 P3) := ⟨R1, R2, R3⟩
  have RG : Aside (FRow w d n A S P) := R
  have HJ : Aside ((∀ i, i < na → A i = A1 i ∧ S i = S1 i ∧ P i = P1 i) ∧ (∀ i, i < nb → A (na + i) = A2 i ∧ S (na + i) = S2 i ∧ P (na + i) = P2 i) ∧ (∀ i, i < nc → A (na + nb + i) = A3 i ∧ S (na + nb + i) = S3 i ∧ P (na + nb + i) = P3 i)) := ⟨h1, h2, h3⟩
  have HN : Aside (na + nb + nc = n) := hn
  have hne : ((n : Int) != (na : Int) + (nb : Int) + (nc : Int)) = false := by simp; omega
  have hna : na ≤ 100000 ∧ nb ≤ 100000 ∧ nc ≤ 100000 := by omega
  clear R R1 R2 R3 h1 h2 h3 hn
  go_enter Try.func10, Try.ntmps10
  go_wp2
  clear hne
  go_loopg [9, 10] na (fun g s9 s wr => ∃ k i : Nat, s9 = .int .i64 k ∧ s = .int .i64 i ∧ 0 + i = k ∧ i ≤ na ∧ na - i ≤ g ∧ Below w.heap.size w wr)
  case atStart => exact ⟨0, 0, rfl, rfl, rfl, Nat.zero_le _, by omega, Below.refl _ _⟩
  case round =>
    obtain ⟨k, i, rfl, rfl, hkk, hi, hg, hbel⟩ := hrel
    have HK : Aside (0 + i = k) := hkk
    clear hkk
    by_cases hlt : i < na
    · have hkn : k < n := by have h1 := HK.out; have h2 := HN.out; omega
      obtain ⟨bb, off, rfl, hbl, c1, c2, c3⟩ := RR.out.1.addr (by omega)
      obtain ⟨bd, ofd, rfl, hbd, x1, x2, x3⟩ := RG.out.addr (by omega)
      have d1 := (hbel.cell (p := ⟨bb, off + i * 3, none⟩) hbl).trans (c1 i hlt)
      have d2 := (hbel.cell (p := ⟨bb, off + i * 3 + 1, none⟩) hbl).trans (c2 i hlt)
      have d3 := (hbel.cell (p := ⟨bb, off + i * 3 + 2, none⟩) hbl).trans (c3 i hlt)
      have g1 := (hbel.cell (p := ⟨bd, ofd + k * 3, none⟩) hbd).trans (x1 k hkn)
      have g2 := (hbel.cell (p := ⟨bd, ofd + k * 3 + 1, none⟩) hbd).trans (x2 k hkn)
      have g3 := (hbel.cell (p := ⟨bd, ofd + k * 3 + 2, none⟩) hbd).trans (x3 k hkn)
      have HX : A k = A1 i ∧ S k = S1 i ∧ P k = P1 i := by have h := HJ.out.1 i hlt; have e := HK.out; rw [show k = i from by omega]; exact h
      rw [HX.1] at g1
      rw [HX.2.1] at g2
      rw [HX.2.2] at g3
      have Z : Aside (Below w.heap.size w wr) := hbel
      clear hbel c1 c2 c3 x1 x2 x3 HX
      generalize A1 i = x at d1 g1
      generalize S1 i = s at d2 g2
      generalize P1 i = p at d3 g3
      go_wp2
      go_region_with (go_at_call 16; refine (eq_at x s p _).mono ?_; rintro _ w2 ⟨rfl, hb2⟩; have Z2 : Aside (Below wr.heap.size wr w2) := ((Below.refl wr.heap.size wr).drew).trans hb2; clear hb2)
      all_goals
        go_wp2
        go_roundg (na - (i + 1))
        case measure => omega
        case rel => exact ⟨k + 1, i + 1, by go_num, by go_num, by rw [← HK.out]; omega, by omega, by omega, below2 Z.out Z2.out⟩
    · have e : na = i := by omega
      subst e
      have ZZ : Aside (Below w.heap.size w wr) := hbel
      have hkk := HK.out
      clear hbel hg hi hlt
      go_wp2
      go_loopg [9, 11] nb (fun g s9 s wr => ∃ k i : Nat, s9 = .int .i64 k ∧ s = .int .i64 i ∧ na + i = k ∧ i ≤ nb ∧ nb - i ≤ g ∧ Below w.heap.size w wr)
      case atStart => exact ⟨k, 0, rfl, rfl, by omega, Nat.zero_le _, by omega, ZZ.out⟩
      case round =>
        clear ZZ hkk HK k
        obtain ⟨k, i, rfl, rfl, hkk, hi, hg, hbel⟩ := hrel
        have HK : Aside (na + i = k) := hkk
        clear hkk
        by_cases hlt : i < nb
        · have hkn : k < n := by have h1 := HK.out; have h2 := HN.out; omega
          obtain ⟨bb, off, rfl, hbl, c1, c2, c3⟩ := RR.out.2.1.addr (by omega)
          obtain ⟨bd, ofd, rfl, hbd, x1, x2, x3⟩ := RG.out.addr (by omega)
          have d1 := (hbel.cell (p := ⟨bb, off + i * 3, none⟩) hbl).trans (c1 i hlt)
          have d2 := (hbel.cell (p := ⟨bb, off + i * 3 + 1, none⟩) hbl).trans (c2 i hlt)
          have d3 := (hbel.cell (p := ⟨bb, off + i * 3 + 2, none⟩) hbl).trans (c3 i hlt)
          have g1 := (hbel.cell (p := ⟨bd, ofd + k * 3, none⟩) hbd).trans (x1 k hkn)
          have g2 := (hbel.cell (p := ⟨bd, ofd + k * 3 + 1, none⟩) hbd).trans (x2 k hkn)
          have g3 := (hbel.cell (p := ⟨bd, ofd + k * 3 + 2, none⟩) hbd).trans (x3 k hkn)
          have HX : A k = A2 i ∧ S k = S2 i ∧ P k = P2 i := by have h := HJ.out.2.1 i hlt; have e := HK.out; rw [e] at h; exact h
          rw [HX.1] at g1
          rw [HX.2.1] at g2
          rw [HX.2.2] at g3
          have Z : Aside (Below w.heap.size w wr) := hbel
          clear hbel c1 c2 c3 x1 x2 x3 HX
          generalize A2 i = x at d1 g1
          generalize S2 i = s at d2 g2
          generalize P2 i = p at d3 g3
          go_wp2
          go_region_with (go_at_call 16; refine (eq_at x s p _).mono ?_; rintro _ w2 ⟨rfl, hb2⟩; have Z2 : Aside (Below wr.heap.size wr w2) := ((Below.refl wr.heap.size wr).drew).trans hb2; clear hb2)
          all_goals
            go_wp2
            go_roundg (nb - (i + 1))
            case measure => omega
            case rel => exact ⟨k + 1, i + 1, by go_num, by go_num, by rw [← HK.out]; omega, by omega, by omega, below2 Z.out Z2.out⟩
        · have e : nb = i := by omega
          subst e
          have ZZ : Aside (Below w.heap.size w wr) := hbel
          have hkk := HK.out
          clear hbel hg hi hlt
          go_wp2
          go_loopg [9, 12] nc (fun g s9 s wr => ∃ k i : Nat, s9 = .int .i64 k ∧ s = .int .i64 i ∧ na + nb + i = k ∧ i ≤ nc ∧ nc - i ≤ g ∧ Below w.heap.size w wr)
          case atStart => exact ⟨k, 0, rfl, rfl, by omega, Nat.zero_le _, by omega, ZZ.out⟩
          case round =>
            clear ZZ hkk HK k
            obtain ⟨k, i, rfl, rfl, hkk, hi, hg, hbel⟩ := hrel
            have HK : Aside (na + nb + i = k) := hkk
            clear hkk
            by_cases hlt : i < nc
            · have hkn : k < n := by have h1 := HK.out; have h2 := HN.out; omega
              obtain ⟨bb, off, rfl, hbl, c1, c2, c3⟩ := RR.out.2.2.addr (by omega)
              obtain ⟨bd, ofd, rfl, hbd, x1, x2, x3⟩ := RG.out.addr (by omega)
              have d1 := (hbel.cell (p := ⟨bb, off + i * 3, none⟩) hbl).trans (c1 i hlt)
              have d2 := (hbel.cell (p := ⟨bb, off + i * 3 + 1, none⟩) hbl).trans (c2 i hlt)
              have d3 := (hbel.cell (p := ⟨bb, off + i * 3 + 2, none⟩) hbl).trans (c3 i hlt)
              have g1 := (hbel.cell (p := ⟨bd, ofd + k * 3, none⟩) hbd).trans (x1 k hkn)
              have g2 := (hbel.cell (p := ⟨bd, ofd + k * 3 + 1, none⟩) hbd).trans (x2 k hkn)
              have g3 := (hbel.cell (p := ⟨bd, ofd + k * 3 + 2, none⟩) hbd).trans (x3 k hkn)
              have HX : A k = A3 i ∧ S k = S3 i ∧ P k = P3 i := by have h := HJ.out.2.2 i hlt; have e := HK.out; rw [e] at h; exact h
              rw [HX.1] at g1
              rw [HX.2.1] at g2
              rw [HX.2.2] at g3
              have Z : Aside (Below w.heap.size w wr) := hbel
              clear hbel c1 c2 c3 x1 x2 x3 HX
              generalize A3 i = x at d1 g1
              generalize S3 i = s at d2 g2
              generalize P3 i = p at d3 g3
              go_wp2
              go_region_with (go_at_call 16; refine (eq_at x s p _).mono ?_; rintro _ w2 ⟨rfl, hb2⟩; have Z2 : Aside (Below wr.heap.size wr w2) := ((Below.refl wr.heap.size wr).drew).trans hb2; clear hb2)
              all_goals
                go_wp2
                go_roundg (nc - (i + 1))
                case measure => omega
                case rel => exact ⟨k + 1, i + 1, by go_num, by go_num, by rw [← HK.out]; omega, by omega, by omega, below2 Z.out Z2.out⟩
            · have e : nc = i := by omega
              subst e
              have ZZ : Aside (Below w.heap.size w wr) := hbel
              have hkk := HK.out
              clear hbel hg hi hlt
              go_wp2
              go_ret
              exact ⟨rfl, ZZ.out⟩

end Go.Proofs.Qxb6629367a.W
