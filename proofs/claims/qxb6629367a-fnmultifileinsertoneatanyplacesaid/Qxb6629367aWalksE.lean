import Derived.Test.Qxb6629367aWalksD
import Derived.Laws.Rows
namespace Go.Proofs.Qxb6629367a.W
open Go.RowKit
set_option linter.unusedVariables false
set_option maxRecDepth 100000

/-- The (wrapping) sum of the first k lengths. -/
def wsum (A : Nat → Int) : Nat → Int
  | 0 => 0
  | k + 1 => wrap64 (wsum A k + A k)

/-- The padding spans in memory. -/
structure PRow (w : World) (pa : Option Addr) (L : List (Int × Int)) : Prop where
  addr : 0 < L.length → ∃ g, pa = some ⟨g, 0, none⟩ ∧ g < w.heap.size ∧ ∀ i, i < L.length → w.cell? ⟨g, i * 2, none⟩ = some (.int .i64 (L.getD i (0, 0)).1) ∧ w.cell? ⟨g, i * 2 + 1, none⟩ = some (.int .i64 (L.getD i (0, 0)).2)

theorem PRow.later {w w' : World} {pa : Option Addr} {L : List (Int × Int)} (h : PRow w pa L) (hb : Below w.heap.size w w') : PRow w' pa L :=
  ⟨fun h0 => by
    obtain ⟨g, e, hlt, hc⟩ := h.addr h0
    exact ⟨g, e, Nat.lt_of_lt_of_le hlt hb.size, fun i hi => ⟨cell_later hb (hc i hi).1, cell_later hb (hc i hi).2⟩⟩⟩

theorem spanCells_at : ∀ (L : List (Int × Int)) (i : Nat), i < L.length → (spanCells L)[i * 2]? = some (.int .i64 (L.getD i (0, 0)).1) ∧ (spanCells L)[i * 2 + 1]? = some (.int .i64 (L.getD i (0, 0)).2)
  | [], i, h => absurd h (Nat.not_lt_zero _)
  | p :: L, 0, h => ⟨rfl, rfl⟩
  | p :: L, i + 1, h => by
    have q := spanCells_at L i (by simpa using h)
    have e1 : spanCells (p :: L) = .int .i64 p.1 :: .int .i64 p.2 :: spanCells L := rfl
    rw [e1, show (i + 1) * 2 = i * 2 + 1 + 1 from by omega]
    exact q

theorem prow_of {w : World} {B : Nat} {pa : Option Addr} {pc : Nat} {L : List (Int × Int)} (h : w.ownsRow B 44 2 (.slice pa L.length pc) L.length (spanCells L)) : PRow w pa L :=
  ⟨fun h0 => by
    obtain ⟨g, cap, hv, _, hlt⟩ := h.form h0
    cases hv
    refine ⟨g, rfl, hlt, fun i hi => ?_⟩
    rw [h.cellAt (i * 2) (by omega), h.cellAt (i * 2 + 1) (by omega)]
    exact spanCells_at L i hi⟩

theorem iv_len {w : World} {h : Nat} {name : ByteArray} {len l2 : Int} {f p : Value} (hrow : w.rowIs h 32 6 (iv name len f p)) : (w.setCell ⟨h, 1, none⟩ (.int .i64 l2)).rowIs h 32 6 (iv name l2 f p) :=
  (hrow.set 1 (.int .i64 l2)).congr (fun i hi => by
    match i, hi with
    | 0, _ => rfl
    | 1, _ => rfl
    | 2, _ => rfl
    | 3, _ => rfl
    | 4, _ => rfl
    | 5, _ => rfl)

/-- The six stores of a whole Info. -/
theorem iv_all {w : World} {h : Nat} {f0 : Nat → Value} {name : ByteArray} {t : Int} {f p : Value} (hr : w.rowIs h 32 6 f0) :
    ((((((w.setCell ⟨h, 0, none⟩ (.string name)).setCell ⟨h, 1, none⟩ (.int .i64 t)).setCell ⟨h, 2, none⟩ (.int .i64 0)).setCell ⟨h, 3, none⟩ (.slice none 0 0)).setCell ⟨h, 4, none⟩ f).setCell ⟨h, 5, none⟩ p).rowIs h 32 6 (iv name t f p) :=
  ((((((hr.set 0 (.string name)).set 1 (.int .i64 t)).set 2 (.int .i64 0)).set 3 (.slice none 0 0)).set 4 f).set 5 p).congr (fun i hi => by
    match i, hi with
    | 0, _ => rfl
    | 1, _ => rfl
    | 2, _ => rfl
    | 3, _ => rfl
    | 4, _ => rfl
    | 5, _ => rfl)

/-- An Info's block, whole. -/
theorem iv_block {w : World} {h : Nat} {name : ByteArray} {t : Int} {f p : Value} (hr : w.rowIs h 32 6 (iv name t f p)) : w.heap[h]? = some (.cells #[.string name, .int .i64 t, .int .i64 0, .slice none 0 0, f, p] 32 (0, 0)) := by
  obtain ⟨cs, h1, h2, h3⟩ := hr
  rw [h1]
  congr 2
  refine Array.ext_getElem? (fun i => ?_)
  by_cases hi : i < 6
  · rw [h3 i hi]
    match i, hi with
    | 0, _ => rfl
    | 1, _ => rfl
    | 2, _ => rfl
    | 3, _ => rfl
    | 4, _ => rfl
    | 5, _ => rfl
  · rw [Array.getElem?_eq_none (by omega), Array.getElem?_eq_none (by simp; omega)]

theorem size32 : (Try.prog.info? 32).map (·.size) = some 6 := by kernel_rfl

/-- What MultiFile gives. -/
def MPost (name : ByteArray) (A : Nat → Int) (P : Nat → Bool) (a : Option Addr) (n c : Nat) (w : World) (e : Ending) (w' : World) : Prop :=
  ∃ pa pc, e = .returned (infoV name (wsum A n) (.slice a n c) (.slice pa (pads A P n 0 0).length pc)) ∧ PRow w' pa (pads A P n 0 0) ∧ Below w.heap.size w w'

set_option maxHeartbeats 4000000 in
theorem multi_at (name : ByteArray) (a : Option Addr) (n c : Nat) (A : Nat → Int) (S : Nat → ByteArray) (P : Nat → Bool) (w : World) (hm : n ≤ 100000) (R : FRow w a n A S P) :
    Calls Try.prog 8 #[.string name, .slice a n c] w (MPost name A P a n c w) := by
  have RR : Aside (FRow w a n A S P) := R
  clear R
  go_enter Try.func8, Try.ntmps8
  go_wp2
  obtain ⟨w1, H1⟩ : ∃ w1, Aside (w.alloc (.cells #[.string ⟨#[]⟩, .int .i64 0, .int .i64 0, .slice none 0 0, .slice none 0 0, .slice none 0 0] 32) = w1) := ⟨_, rfl⟩
  have hs1 : w1.heap.size = w.heap.size + 1 := by rw [← H1.out]; simp
  have F1 : Aside (FRow w1 a n A S P ∧ Below w.heap.size w w1 ∧ ∃ f0, w1.rowIs w.heap.size 32 6 f0) := by
    rw [← H1.out]
    have hb : Below w.heap.size w (w.alloc (.cells #[.string ⟨#[]⟩, .int .i64 0, .int .i64 0, .slice none 0 0, .slice none 0 0, .slice none 0 0] 32)) := (Below.refl _ _).alloc (Nat.le_refl _) _
    exact ⟨RR.out.later hb, hb, _, World.rowIs_alloc w #[.string ⟨#[]⟩, .int .i64 0, .int .i64 0, .slice none 0 0, .slice none 0 0, .slice none 0 0] 32 (iv ⟨#[]⟩ 0 (.slice none 0 0) (.slice none 0 0)) (fun i hi => by
      match i, hi with
      | 0, _ => rfl
      | 1, _ => rfl
      | 2, _ => rfl
      | 3, _ => rfl
      | 4, _ => rfl
      | 5, _ => rfl)⟩
  have Z0 : Aside ((w1.alloc (.cells #[.string name, .int .i64 0, .int .i64 0, .slice none 0 0, .slice a n c, .slice none 0 0] 32)).rowIs (w.heap.size + 1) 32 6 (iv name 0 (.slice a n c) (.slice none 0 0)) ∧ Below w1.heap.size w1 (w1.alloc (.cells #[.string name, .int .i64 0, .int .i64 0, .slice none 0 0, .slice a n c, .slice none 0 0] 32))) := by
    refine ⟨?_, (Below.refl _ _).alloc (Nat.le_refl _) _⟩
    rw [← hs1]
    exact World.rowIs_alloc w1 #[.string name, .int .i64 0, .int .i64 0, .slice none 0 0, .slice a n c, .slice none 0 0] 32 (iv name 0 (.slice a n c) (.slice none 0 0)) (fun i hi => by
      match i, hi with
      | 0, _ => rfl
      | 1, _ => rfl
      | 2, _ => rfl
      | 3, _ => rfl
      | 4, _ => rfl
      | 5, _ => rfl)
  rw [H1.out]
  have HS1 : Aside (w1.heap.size = w.heap.size + 1) := hs1
  clear H1 RR hs1
  generalize w1.alloc (.cells #[.string name, .int .i64 0, .int .i64 0, .slice none 0 0, .slice a n c, .slice none 0 0] 32) = W at *
  go_loopg [7, 13] n (fun g s7 s13 wr => ∃ k : Nat, s13 = .int .i64 k ∧ k ≤ n ∧ n - k ≤ g ∧ wr.rowIs (w.heap.size + 1) 32 6 (iv name (wsum A k) (.slice a n c) (.slice none 0 0)) ∧ Below w1.heap.size w1 wr)
  case atStart => exact ⟨0, rfl, Nat.zero_le _, by omega, Z0.out.1, Z0.out.2⟩
  case round =>
    clear Z0
    obtain ⟨k, rfl, hk, hg, hrow, hbel⟩ := hrel
    by_cases hlt : k < n
    · obtain ⟨b, o, rfl, hbl, d1, d2, d3⟩ := F1.out.1.addr (by omega)
      have e1 := (hbel.cell (p := ⟨b, o + k * 3, none⟩) hbl).trans (d1 k hlt)
      have e2 := (hbel.cell (p := ⟨b, o + k * 3 + 1, none⟩) hbl).trans (d2 k hlt)
      have e3 := (hbel.cell (p := ⟨b, o + k * 3 + 2, none⟩) hbl).trans (d3 k hlt)
      have hbr : b < wr.heap.size := Nat.lt_of_lt_of_le hbl hbel.size
      clear d1 d2 d3
      have r1 : wr.cell? ⟨w.heap.size + 1, 1, none⟩ = some (.int .i64 (wsum A k)) := hrow.cell (by omega)
      have g1 := hrow.frozen 1
      have hhr := hrow.lt
      have Z : Aside (wr.rowIs (w.heap.size + 1) 32 6 (iv name (wsum A k) (.slice (some ⟨b, o, none⟩) n c) (.slice none 0 0)) ∧ Below w1.heap.size w1 wr) := ⟨hrow, hbel⟩
      have HWS : Aside (wsum A (k + 1) = wrap64 (wsum A k + A k)) := rfl
      clear hrow hbel
      generalize A k = x at e1 HWS
      generalize S k = s at e2
      generalize P k = p at e3
      generalize wsum A k = t at r1 Z HWS
      go_upto_region 5 with fail
      obtain ⟨W4, HW4⟩ : ∃ W4, Aside (wr.alloc (.cells #[.int .i64 x, .string s, .bool p] 41) = W4) := ⟨_, rfl⟩
      have Z4 : Aside (W4.rowIs (w.heap.size + 1) 32 6 (iv name t (.slice (some ⟨b, o, none⟩) n c) (.slice none 0 0)) ∧ Below w1.heap.size w1 W4) := by
        rw [← HW4.out]
        exact ⟨Z.out.1.alloc _, Z.out.2.alloc Z.out.2.size _⟩
      have c40 : W4.cell? ⟨wr.heap.size, 0, none⟩ = some (.int .i64 x) := by rw [← HW4.out]; simp
      rw [HW4.out]
      clear HW4 e1 e2 e3 r1 g1 Z
      have r1 : W4.cell? ⟨w.heap.size + 1, 1, none⟩ = some (.int .i64 t) := Z4.out.1.cell (by omega)
      have g1 := Z4.out.1.frozen 1
      go_wp2
      go_roundg (n - (k + 1))
      case measure => omega
      case rel =>
        refine ⟨k + 1, by go_num, by omega, by omega, ?_, Z4.out.2.setCell (by rw [HS1.out]; exact Nat.le_refl _) _⟩
        rw [HWS.out]
        exact iv_len Z4.out.1
    · have e : n = k := by omega
      subst e
      have hh : w1.heap.size ≤ w.heap.size + 1 := by rw [HS1.out]; exact Nat.le_refl _
      have CON : Hid _ := find_at name (wsum A n) a n c (.slice none 0 0) A S P (w.heap.size + 1) w1 wr hm F1.out.1 hbel hh hrow
      clear hrow hbel hh
      obtain ⟨L, HL⟩ : ∃ L, Aside (pads A P n 0 0 = L) := ⟨_, rfl⟩
      rw [HL.out] at CON
      have HP : Aside (∀ e w', (∃ pa pc, e = .returned (infoV name (wsum A n) (.slice a n c) (.slice pa L.length pc)) ∧ PRow w' pa L ∧ Below w.heap.size w w') → MPost name A P a n c w e w') := by
        intro e w' hp
        unfold MPost
        rw [HL.out]
        exact hp
      generalize MPost name A P a n c w = QQ at *
      generalize wsum A n = t at *
      go_wp2_with (go_at_call 15; refine Calls.mono CON.out ?_; rintro _ w2 ⟨rfl, pa, pc, hr2, ho2, hb2⟩; obtain ⟨f0, hr0⟩ := F1.out.2.2; have hrr := hr0.of_block (hb2.block w.heap.size (by rw [HS1.out]; exact Nat.lt_succ_self _)); have q0 : w2.cell? ⟨w.heap.size + 1, 0, none⟩ = some (.string name) := hr2.cell (by omega); have q1 : w2.cell? ⟨w.heap.size + 1, 1, none⟩ = some (.int .i64 t) := hr2.cell (by omega); have q2 : w2.cell? ⟨w.heap.size + 1, 2, none⟩ = some (.int .i64 0) := hr2.cell (by omega); have q3 : w2.cell? ⟨w.heap.size + 1, 3, none⟩ = some (.slice none 0 0) := hr2.cell (by omega); have q4 : w2.cell? ⟨w.heap.size + 1, 4, none⟩ = some (.slice a n c) := hr2.cell (by omega); have q5 : w2.cell? ⟨w.heap.size + 1, 5, none⟩ = some (.slice pa L.length pc) := hr2.cell (by omega); have Z2 : Aside (w2.rowIs w.heap.size 32 6 f0 ∧ w2.ownsRow (w.heap.size + 1 + 1) 44 2 (.slice pa L.length pc) L.length (spanCells L) ∧ Below w.heap.size w w2) := ⟨hrr, ho2, F1.out.2.1.trans (hb2.mono F1.out.2.1.size)⟩; have j0 := hrr.frozen 0; have j1 := hrr.frozen 1; have j2 := hrr.frozen 2; have j3 := hrr.frozen 3; have j4 := hrr.frozen 4; have j5 := hrr.frozen 5; have y0 := hrr.cell (i := 0) (by omega); have y1 := hrr.cell (i := 1) (by omega); have y2 := hrr.cell (i := 2) (by omega); have y3 := hrr.cell (i := 3) (by omega); have y4 := hrr.cell (i := 4) (by omega); have y5 := hrr.cell (i := 5) (by omega); clear hrr hr0 hr2 ho2 hb2)
      refine bodyPost_ret (results_cell_row rfl _ _ w.heap.size 32 #[.string name, .int .i64 t, .int .i64 0, .slice none 0 0, .slice a n c, .slice pa L.length pc] (0, 0) _ rfl (iv_block (iv_all Z2.out.1)) Try.underlying32 rfl size32) rfl ?_
      have hb : ∀ {u : World} (i : Nat) (v : Value), Below w.heap.size w u → Below w.heap.size w (u.setCell ⟨w.heap.size, i, none⟩ v) := fun i v h => h.setCell (Nat.le_refl _) v
      have ho : ∀ {u : World} (i : Nat) (v : Value), u.ownsRow (w.heap.size + 1 + 1) 44 2 (.slice pa L.length pc) L.length (spanCells L) → (u.setCell ⟨w.heap.size, i, none⟩ v).ownsRow (w.heap.size + 1 + 1) 44 2 (.slice pa L.length pc) L.length (spanCells L) := fun i v h => ownsRow_setCell_below h (by show w.heap.size < w.heap.size + 1 + 1; omega) v
      exact HP.out _ _ ⟨pa, pc, rfl, prow_of (ho _ _ (ho _ _ (ho _ _ (ho _ _ (ho _ _ (ho _ _ Z2.out.2.1)))))), hb _ _ (hb _ _ (hb _ _ (hb _ _ (hb _ _ (hb _ _ Z2.out.2.2)))))⟩

end Go.Proofs.Qxb6629367a.W
