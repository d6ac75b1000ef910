import Derived.Test.Qxb6629367aWalksB
import Derived.BigRegion
namespace Go.Proofs.Qxb6629367a.W
open Go.RowKit
set_option linter.unusedVariables false
set_option maxRecDepth 100000

theorem info41 : (Try.prog.info? 41).map (fun i => (i.zero, i.size, i.bytes)) = some (some (.agg #[.int .i64 0, .string ⟨#[]⟩, .bool false]), 3, 32) := by kernel_rfl

def z41 : Array Value := #[.int .i64 0, .string ⟨#[]⟩, .bool false]

theorem mkF (n : Nat) (hm : n ≤ 100000) (w : World) : (Instr.makeSlice 29 (.int .i64 (n : Int)) (.int .i64 (n : Int))).run Try.prog w = .ok (.slice (some ⟨w.heap.size, 0, none⟩) n n) (w.alloc (.cells (madeCells z41 (n * 3)) 41)) := by
  obtain ⟨i, hi, hz0, hz1, hz2⟩ := info_parts info41
  have hr := run_make (P := Try.prog) w 29 41 i _ Try.underlying29 hi hz0 .i64 .i64 (n : Int) (n : Int) (by omega) (Int.le_refl _) (by rw [hz2]; omega) (by omega)
  simp only [Int.toNat_natCast, hz1] at hr
  exact hr

/-- The cells of a row of entries. -/
def fcell (A : Nat → Int) (S : Nat → ByteArray) (P : Nat → Bool) (j : Nat) : Value := if j % 3 = 0 then .int .i64 (A (j / 3)) else if j % 3 = 1 then .string (S (j / 3)) else .bool (P (j / 3))

theorem fcell_0 (A : Nat → Int) (S : Nat → ByteArray) (P : Nat → Bool) (k : Nat) : fcell A S P (k * 3) = .int .i64 (A k) := by
  unfold fcell; rw [if_pos (by omega), show k * 3 / 3 = k from by omega]
theorem fcell_1 (A : Nat → Int) (S : Nat → ByteArray) (P : Nat → Bool) (k : Nat) : fcell A S P (k * 3 + 1) = .string (S k) := by
  unfold fcell; rw [if_neg (by omega), if_pos (by omega), show (k * 3 + 1) / 3 = k from by omega]
theorem fcell_2 (A : Nat → Int) (S : Nat → ByteArray) (P : Nat → Bool) (k : Nat) : fcell A S P (k * 3 + 2) = .bool (P k) := by
  unfold fcell; rw [if_neg (by omega), if_neg (by omega), show (k * 3 + 2) / 3 = k from by omega]

theorem row_of {w : World} {g n : Nat} {A : Nat → Int} {S : Nat → ByteArray} {P : Nat → Bool} (h : w.rowIs g 41 (n * 3) (fcell A S P)) : FRow w (some ⟨g, 0, none⟩) n A S P :=
  ⟨fun _ => ⟨g, 0, rfl, h.lt, fun i hi => by rw [Nat.zero_add, h.cell (by omega), fcell_0], fun i hi => by rw [Nat.zero_add, h.cell (by omega), fcell_1], fun i hi => by rw [Nat.zero_add, h.cell (by omega), fcell_2]⟩⟩

/-- The row, filled up to entry k. -/
def filled (A : Nat → Int) (S : Nat → ByteArray) (P : Nat → Bool) (f0 : Nat → Value) (k j : Nat) : Value := if j < k * 3 then fcell A S P j else f0 j

theorem fill_step {w : World} {g n k : Nat} {A : Nat → Int} {S : Nat → ByteArray} {P : Nat → Bool} {f0 : Nat → Value} {x : Int} {s : ByteArray} {p : Bool} (h : w.rowIs g 41 (n * 3) (filled A S P f0 k)) (hx : A k = x) (hs : S k = s) (hp : P k = p) :
    (((w.setCell ⟨g, k * 3, none⟩ (.int .i64 x)).setCell ⟨g, k * 3 + 1, none⟩ (.string s)).setCell ⟨g, k * 3 + 2, none⟩ (.bool p)).rowIs g 41 (n * 3) (filled A S P f0 (k + 1)) := by
  refine (((h.set (k * 3) (.int .i64 x)).set (k * 3 + 1) (.string s)).set (k * 3 + 2) (.bool p)).congr (fun i hi => ?_)
  subst hx hs hp
  unfold filled
  by_cases e2 : i = k * 3 + 2
  · subst e2; rw [if_pos rfl, if_pos (by omega), fcell_2]
  · by_cases e1 : i = k * 3 + 1
    · subst e1; rw [if_neg e2, if_pos rfl, if_pos (by omega), fcell_1]
    · by_cases e0 : i = k * 3
      · subst e0; rw [if_neg e2, if_neg e1, if_pos rfl, if_pos (by omega), fcell_0]
      · by_cases e3 : i < k * 3
        · rw [if_neg e2, if_neg e1, if_neg e0, if_pos e3, if_pos (by omega)]
        · rw [if_neg e2, if_neg e1, if_neg e0, if_neg e3, if_neg (by omega)]

set_option maxHeartbeats 4000000 in
theorem join_at (a b c : Option Addr) (na ca nb cb nc cc n : Nat) (A1 A2 A3 A : Nat → Int) (S1 S2 S3 S : Nat → ByteArray) (P1 P2 P3 P : Nat → Bool) (w : World) (R1 : FRow w a na A1 S1 P1) (R2 : FRow w b nb A2 S2 P2) (R3 : FRow w c nc A3 S3 P3)
    (hn : na + nb + nc = n) (hm : n ≤ 100000) (h1 : ∀ i, i < na → A i = A1 i ∧ S i = S1 i ∧ P i = P1 i) (h2 : ∀ i, i < nb → A (na + i) = A2 i ∧ S (na + i) = S2 i ∧ P (na + i) = P2 i) (h3 : ∀ i, i < nc → A (na + nb + i) = A3 i ∧ S (na + nb + i) = S3 i ∧ P (na + nb + i) = P3 i) :
    Calls Try.prog 9 #[.slice a na ca, .slice b nb cb, .slice c nc cc] w fun e w' => e = .returned (.slice (some ⟨w.heap.size, 0, none⟩) n n) ∧ FRow w' (some ⟨w.heap.size, 0, none⟩) n A S P ∧ Below w.heap.size w w' := by
  have RR : Aside (FRow w a na A1 S1 P1 ∧ FRow w b nb A2 S2 P2 ∧ FRow w c nc A3 S3 P3) := ⟨R1, R2, R3⟩
  have HJ : Aside ((∀ i, i < na → A i = A1 i ∧ S i = S1 i ∧ P i = P1 i) ∧ (∀ i, i < nb → A (na + i) = A2 i ∧ S (na + i) = S2 i ∧ P (na + i) = P2 i) ∧ (∀ i, i < nc → A (na + nb + i) = A3 i ∧ S (na + nb + i) = S3 i ∧ P (na + nb + i) = P3 i)) := ⟨h1, h2, h3⟩
  have HN : Aside (na + nb + nc = n) := hn
  have hni : (na : Int) + (nb : Int) + (nc : Int) = (n : Int) := by omega
  have hmk := mkF n hm
  rw [← hni] at hmk
  clear R1 R2 R3 h1 h2 h3 hn hni
  have R0 : Aside (∃ f0, (w.alloc (.cells (madeCells z41 (n * 3)) 41)).rowIs w.heap.size 41 (n * 3) f0) := by
    refine ⟨fun i => (madeCells z41 (n * 3))[i]?.getD (.bool false), ?_⟩
    have h := World.rowIs_alloc w (madeCells z41 (n * 3)) 41 (fun i => (madeCells z41 (n * 3))[i]?.getD (.bool false)) (fun i hi => by rw [Array.getElem?_eq_getElem hi]; rfl)
    rw [size_madeCells] at h
    exact h
  have B0 : Aside (Below w.heap.size w (w.alloc (.cells (madeCells z41 (n * 3)) 41))) := (Below.refl _ _).alloc (Nat.le_refl _) _
  have hna : na ≤ 100000 ∧ nb ≤ 100000 ∧ nc ≤ 100000 := by have := HN.out; omega
  go_enter Try.func9, Try.ntmps9
  go_wp2
  clear hmk
  generalize w.alloc (.cells (madeCells z41 (n * 3)) 41) = W at *
  go_loopg [8, 9] na (fun g s8 s wr => ∃ k i : Nat, s8 = .int .i64 k ∧ s = .int .i64 i ∧ 0 + i = k ∧ i ≤ na ∧ na - i ≤ g ∧ (∃ f0, wr.rowIs w.heap.size 41 (n * 3) (filled A S P f0 k)) ∧ Below w.heap.size w wr)
  case atStart =>
    obtain ⟨f0, h0⟩ := R0.out
    exact ⟨0, 0, rfl, rfl, rfl, Nat.zero_le _, by omega, ⟨f0, h0.congr (fun i hi => by unfold filled; simp)⟩, B0.out⟩
  case round =>
    clear R0 B0
    obtain ⟨k, i, rfl, rfl, hkk, hi, hg, hrow, hbel⟩ := hrel
    have HK : Aside (0 + i = k) := hkk
    clear hkk
    by_cases hlt : i < na
    · obtain ⟨bb, off, rfl, hbl, c1, c2, c3⟩ := RR.out.1.addr (by omega)
      obtain ⟨f0, hrow⟩ := hrow
      have hkn : k < n := by have h1 := HK.out; have h2 := HN.out; omega
      have d1 := (hbel.cell (p := ⟨bb, off + i * 3, none⟩) hbl).trans (c1 i hlt)
      have d2 := (hbel.cell (p := ⟨bb, off + i * 3 + 1, none⟩) hbl).trans (c2 i hlt)
      have d3 := (hbel.cell (p := ⟨bb, off + i * 3 + 2, none⟩) hbl).trans (c3 i hlt)
      obtain ⟨v0, hv0⟩ : ∃ v, wr.cell? ⟨w.heap.size, k * 3, none⟩ = some v := ⟨_, hrow.cell (by omega)⟩
      obtain ⟨v1, hv1⟩ : ∃ v, wr.cell? ⟨w.heap.size, k * 3 + 1, none⟩ = some v := ⟨_, hrow.cell (by omega)⟩
      obtain ⟨v2, hv2⟩ : ∃ v, wr.cell? ⟨w.heap.size, k * 3 + 2, none⟩ = some v := ⟨_, hrow.cell (by omega)⟩
      have hf0 := hrow.frozen (k * 3)
      have hf1 := hrow.frozen (k * 3 + 1)
      have hf2 := hrow.frozen (k * 3 + 2)
      have HX : Aside (A k = A1 i ∧ S k = S1 i ∧ P k = P1 i) := by have h := HJ.out.1 i hlt; have e := HK.out; rw [show k = i from by omega]; exact h
      have Z : Aside (wr.rowIs w.heap.size 41 (n * 3) (filled A S P f0 k) ∧ Below w.heap.size w wr) := ⟨hrow, hbel⟩
      clear hrow hbel c1 c2 c3
      generalize A1 i = x at d1 HX
      generalize S1 i = s at d2 HX
      generalize P1 i = p at d3 HX
      go_wp2
      go_region
      go_wp2
      go_roundg (na - (i + 1))
      case measure => omega
      case rel =>
        obtain ⟨hrow, hbel⟩ := Z.out
        refine ⟨k + 1, i + 1, by go_num, by go_num, by rw [← HK.out]; omega, by omega, by omega, ⟨f0, (fill_step hrow HX.out.1 HX.out.2.1 HX.out.2.2).drew⟩, (((hbel.setCell (Nat.le_refl _) _).setCell (Nat.le_refl _) _).setCell (Nat.le_refl _) _).drew⟩
    · have e : na = i := by omega
      subst e
      have ZZ : Aside ((∃ f0, wr.rowIs w.heap.size 41 (n * 3) (filled A S P f0 k)) ∧ Below w.heap.size w wr) := ⟨hrow, hbel⟩
      have hkk := HK.out
      clear hrow hbel hg hi hlt
      go_wp2
      go_loopg [8, 10] nb (fun g s8 s wr => ∃ k i : Nat, s8 = .int .i64 k ∧ s = .int .i64 i ∧ na + i = k ∧ i ≤ nb ∧ nb - i ≤ g ∧ (∃ f0, wr.rowIs w.heap.size 41 (n * 3) (filled A S P f0 k)) ∧ Below w.heap.size w wr)
      case atStart => exact ⟨k, 0, rfl, rfl, by omega, Nat.zero_le _, by omega, ZZ.out.1, ZZ.out.2⟩
      case round =>
        clear ZZ hkk HK k
        obtain ⟨k, i, rfl, rfl, hkk, hi, hg, hrow, hbel⟩ := hrel
        have HK : Aside (na + i = k) := hkk
        clear hkk
        by_cases hlt : i < nb
        · obtain ⟨bb, off, rfl, hbl, c1, c2, c3⟩ := RR.out.2.1.addr (by omega)
          obtain ⟨f0, hrow⟩ := hrow
          have hkn : k < n := by have h1 := HK.out; have h2 := HN.out; omega
          have d1 := (hbel.cell (p := ⟨bb, off + i * 3, none⟩) hbl).trans (c1 i hlt)
          have d2 := (hbel.cell (p := ⟨bb, off + i * 3 + 1, none⟩) hbl).trans (c2 i hlt)
          have d3 := (hbel.cell (p := ⟨bb, off + i * 3 + 2, none⟩) hbl).trans (c3 i hlt)
          obtain ⟨v0, hv0⟩ : ∃ v, wr.cell? ⟨w.heap.size, k * 3, none⟩ = some v := ⟨_, hrow.cell (by omega)⟩
          obtain ⟨v1, hv1⟩ : ∃ v, wr.cell? ⟨w.heap.size, k * 3 + 1, none⟩ = some v := ⟨_, hrow.cell (by omega)⟩
          obtain ⟨v2, hv2⟩ : ∃ v, wr.cell? ⟨w.heap.size, k * 3 + 2, none⟩ = some v := ⟨_, hrow.cell (by omega)⟩
          have hf0 := hrow.frozen (k * 3)
          have hf1 := hrow.frozen (k * 3 + 1)
          have hf2 := hrow.frozen (k * 3 + 2)
          have HX : Aside (A k = A2 i ∧ S k = S2 i ∧ P k = P2 i) := by have h := HJ.out.2.1 i hlt; have e := HK.out; rw [e] at h; exact h
          have Z : Aside (wr.rowIs w.heap.size 41 (n * 3) (filled A S P f0 k) ∧ Below w.heap.size w wr) := ⟨hrow, hbel⟩
          clear hrow hbel c1 c2 c3
          generalize A2 i = x at d1 HX
          generalize S2 i = s at d2 HX
          generalize P2 i = p at d3 HX
          go_wp2
          go_region
          go_wp2
          go_roundg (nb - (i + 1))
          case measure => omega
          case rel =>
            obtain ⟨hrow, hbel⟩ := Z.out
            refine ⟨k + 1, i + 1, by go_num, by go_num, by rw [← HK.out]; omega, by omega, by omega, ⟨f0, (fill_step hrow HX.out.1 HX.out.2.1 HX.out.2.2).drew⟩, (((hbel.setCell (Nat.le_refl _) _).setCell (Nat.le_refl _) _).setCell (Nat.le_refl _) _).drew⟩
        · have e : nb = i := by omega
          subst e
          have ZZ : Aside ((∃ f0, wr.rowIs w.heap.size 41 (n * 3) (filled A S P f0 k)) ∧ Below w.heap.size w wr) := ⟨hrow, hbel⟩
          have hkk := HK.out
          clear hrow hbel hg hi hlt
          go_wp2
          go_loopg [8, 11] nc (fun g s8 s wr => ∃ k i : Nat, s8 = .int .i64 k ∧ s = .int .i64 i ∧ na + nb + i = k ∧ i ≤ nc ∧ nc - i ≤ g ∧ (∃ f0, wr.rowIs w.heap.size 41 (n * 3) (filled A S P f0 k)) ∧ Below w.heap.size w wr)
          case atStart => exact ⟨k, 0, rfl, rfl, by omega, Nat.zero_le _, by omega, ZZ.out.1, ZZ.out.2⟩
          case round =>
            clear ZZ hkk HK k
            obtain ⟨k, i, rfl, rfl, hkk, hi, hg, hrow, hbel⟩ := hrel
            have HK : Aside (na + nb + i = k) := hkk
            clear hkk
            by_cases hlt : i < nc
            · obtain ⟨bb, off, rfl, hbl, c1, c2, c3⟩ := RR.out.2.2.addr (by omega)
              obtain ⟨f0, hrow⟩ := hrow
              have hkn : k < n := by have h1 := HK.out; have h2 := HN.out; omega
              have d1 := (hbel.cell (p := ⟨bb, off + i * 3, none⟩) hbl).trans (c1 i hlt)
              have d2 := (hbel.cell (p := ⟨bb, off + i * 3 + 1, none⟩) hbl).trans (c2 i hlt)
              have d3 := (hbel.cell (p := ⟨bb, off + i * 3 + 2, none⟩) hbl).trans (c3 i hlt)
              obtain ⟨v0, hv0⟩ : ∃ v, wr.cell? ⟨w.heap.size, k * 3, none⟩ = some v := ⟨_, hrow.cell (by omega)⟩
              obtain ⟨v1, hv1⟩ : ∃ v, wr.cell? ⟨w.heap.size, k * 3 + 1, none⟩ = some v := ⟨_, hrow.cell (by omega)⟩
              obtain ⟨v2, hv2⟩ : ∃ v, wr.cell? ⟨w.heap.size, k * 3 + 2, none⟩ = some v := ⟨_, hrow.cell (by omega)⟩
              have hf0 := hrow.frozen (k * 3)
              have hf1 := hrow.frozen (k * 3 + 1)
              have hf2 := hrow.frozen (k * 3 + 2)
              have HX : Aside (A k = A3 i ∧ S k = S3 i ∧ P k = P3 i) := by have h := HJ.out.2.2 i hlt; have e := HK.out; rw [e] at h; exact h
              have Z : Aside (wr.rowIs w.heap.size 41 (n * 3) (filled A S P f0 k) ∧ Below w.heap.size w wr) := ⟨hrow, hbel⟩
              clear hrow hbel c1 c2 c3
              generalize A3 i = x at d1 HX
              generalize S3 i = s at d2 HX
              generalize P3 i = p at d3 HX
              go_wp2
              go_region
              go_wp2
              go_roundg (nc - (i + 1))
              case measure => omega
              case rel =>
                obtain ⟨hrow, hbel⟩ := Z.out
                refine ⟨k + 1, i + 1, by go_num, by go_num, by rw [← HK.out]; omega, by omega, by omega, ⟨f0, (fill_step hrow HX.out.1 HX.out.2.1 HX.out.2.2).drew⟩, (((hbel.setCell (Nat.le_refl _) _).setCell (Nat.le_refl _) _).setCell (Nat.le_refl _) _).drew⟩
            · have e : nc = i := by omega
              subst e
              have ZZ : Aside ((∃ f0, wr.rowIs w.heap.size 41 (n * 3) (filled A S P f0 k)) ∧ Below w.heap.size w wr) := ⟨hrow, hbel⟩
              have hkk := HK.out
              clear hrow hbel hg hi hlt
              have hkn : n = k := by have h2 := HN.out; omega
              subst hkn
              go_wp2
              go_ret
              obtain ⟨⟨f0, hr⟩, hb⟩ := ZZ.out
              exact ⟨rfl, row_of (hr.congr (fun i hi => by unfold filled; rw [if_pos hi])), hb⟩

end Go.Proofs.Qxb6629367a.W
