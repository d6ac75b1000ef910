import Derived.Test.Qxb6629367aWalksC
import Derived.Deep.RegionLaw
namespace Go.Proofs.Qxb6629367a.W
open Go.RowKit
set_option linter.unusedVariables false
set_option maxRecDepth 100000

/-- The cells of an Info. -/
def iv (name : ByteArray) (len : Int) (f p : Value) : Nat → Value
  | 0 => .string name
  | 1 => .int .i64 len
  | 2 => .int .i64 0
  | 3 => .slice none 0 0
  | 4 => f
  | _ => p

/-- The padding spans from entry k on, which begins at 'off'. -/
def pads (A : Nat → Int) (P : Nat → Bool) : Nat → Nat → Int → List (Int × Int)
  | 0, _, _ => []
  | f + 1, k, off => if P k = true ∧ 0 < A k then (off, wrap64 (off + A k)) :: pads A P f (k + 1) (wrap64 (off + A k)) else pads A P f (k + 1) (wrap64 (off + A k))

def spanCells (xs : List (Int × Int)) : List Value := xs.flatMap fun p => [.int .i64 p.1, .int .i64 p.2]

theorem info44 : (Try.prog.info? 44).map (fun i => (i.zero, i.size, i.bytes)) = some (some (.agg #[.int .i64 0, .int .i64 0]), 2, 16) := by kernel_rfl

theorem two_new (W : World) (x y : Int) : ∀ j u, [Value.int .i64 x, Value.int .i64 y][j]? = some u → (W.alloc (.cells #[.int .i64 x, .int .i64 y] 44)).cell? ((⟨W.heap.size, 0, none⟩ : Addr).add j) = some u := by
  intro j u hj
  match j, hj with
  | 0, hj => simp at hj; subst hj; simp [Addr.add]
  | 1, hj => simp at hj; subst hj; simp [Addr.add]

theorem two_newD (W : World) (x y : Int) : ∀ j u, [Value.int .i64 x, Value.int .i64 y][j]? = some u → (W.alloc (.cells #[.int .i64 x, .int .i64 y] 44)).drew.cell? ((⟨W.heap.size, 0, none⟩ : Addr).add j) = some u := two_new W x y

theorem row_grown {Wa w' : World} {h m : Nat} {f : Nat → Value} {v : Value} {ys : List Value} (hrow : Wa.rowIs h 32 6 f) (hown : Wa.ownsRow (h + 1) 44 2 v m ys) (hg : Wa.grownBy w' v.ownBlock) : w'.rowIs h 32 6 f :=
  hrow.of_block (hg.block h hrow.lt (fun e => by have := (hown.lt h e.symm).1; omega))

theorem iv_set {w : World} {h : Nat} {name : ByteArray} {len : Int} {f p q : Value} (hrow : w.rowIs h 32 6 (iv name len f p)) : (w.setCell ⟨h, 5, none⟩ q).rowIs h 32 6 (iv name len f q) :=
  (hrow.set 5 q).congr (fun i hi => by
    match i, hi with
    | 0, _ => rfl
    | 1, _ => rfl
    | 2, _ => rfl
    | 3, _ => rfl
    | 4, _ => rfl
    | 5, _ => rfl)

theorem pads_yes (A : Nat → Int) (P : Nat → Bool) (f k : Nat) (off : Int) (h : P k = true) (h2 : 0 < A k) : pads A P (f + 1) k off = (off, wrap64 (off + A k)) :: pads A P f (k + 1) (wrap64 (off + A k)) := by
  show (if _ then _ else _) = _; rw [if_pos ⟨h, h2⟩]
theorem pads_no (A : Nat → Int) (P : Nat → Bool) (f k : Nat) (off : Int) (h : ¬ (P k = true ∧ 0 < A k)) : pads A P (f + 1) k off = pads A P f (k + 1) (wrap64 (off + A k)) := by
  show (if _ then _ else _) = _; rw [if_neg h]

/-- What stands behind one round of findPadding. -/
def Round (A : Nat → Int) (P : Nat → Bool) (L : List (Int × Int)) (name : ByteArray) (len : Int) (fv : Value) (h n k : Nat) (off x : Int) (fb : Nat) (w0 wc : World) : Prop :=
  ∃ (m : Nat) (xs : List (Int × Int)) (pa : Option Addr) (pc : Nat), xs.length = m ∧ m ≤ k + 1 ∧ xs ++ pads A P (n - (k + 1)) (k + 1) (wrap64 (off + x)) = L ∧ wc.rowIs h 32 6 (iv name len fv (.slice pa m pc)) ∧ wc.ownsRow (h + 1) 44 2 (.slice pa m pc) m (spanCells xs) ∧ Below w0.heap.size w0 wc ∧ wc.cell? ⟨fb, 0, none⟩ = some (.int .i64 x)

set_option maxHeartbeats 4000000 in
theorem find_at (name : ByteArray) (len : Int) (a : Option Addr) (n c : Nat) (p0 : Value) (A : Nat → Int) (S : Nat → ByteArray) (P : Nat → Bool) (h : Nat) (w0 w : World) (hm : n ≤ 100000) (R : FRow w0 a n A S P) (B0 : Below w0.heap.size w0 w) (hh : w0.heap.size ≤ h) (hrow : w.rowIs h 32 6 (iv name len (.slice a n c) p0)) :
    Calls Try.prog 15 #[.pointer (some ⟨h, 0, none⟩)] w fun e w' => e = .returned (.tuple #[]) ∧ ∃ pa pc, w'.rowIs h 32 6 (iv name len (.slice a n c) (.slice pa (pads A P n 0 0).length pc)) ∧ w'.ownsRow (h + 1) 44 2 (.slice pa (pads A P n 0 0).length pc) (pads A P n 0 0).length (spanCells (pads A P n 0 0)) ∧ Below w0.heap.size w0 w' := by
  obtain ⟨L, HL⟩ : ∃ L, Aside (pads A P n 0 0 = L) := ⟨_, rfl⟩
  rw [HL.out]
  have RR : Aside (FRow w0 a n A S P) := R
  have c5 : w.cell? ⟨h, 5, none⟩ = some p0 := hrow.cell (by omega)
  have f5 := hrow.frozen 5
  have hx := hrow.set 5 (.slice none 0 0)
  have hrow1 : (w.setCell ⟨h, 5, none⟩ (.slice none 0 0)).rowIs h 32 6 (iv name len (.slice a n c) (.slice none 0 0)) := hx.congr (fun i hi => by
    match i, hi with
    | 0, _ => rfl
    | 1, _ => rfl
    | 2, _ => rfl
    | 3, _ => rfl
    | 4, _ => rfl
    | 5, _ => rfl)
  have c4 : (w.setCell ⟨h, 5, none⟩ (.slice none 0 0)).cell? ⟨h, 4, none⟩ = some (.slice a n c) := hrow1.cell (by omega)
  have Z0 : Aside ((w.setCell ⟨h, 5, none⟩ (.slice none 0 0)).rowIs h 32 6 (iv name len (.slice a n c) (.slice none 0 0)) ∧ Below w0.heap.size w0 (w.setCell ⟨h, 5, none⟩ (.slice none 0 0))) := ⟨hrow1, B0.setCell hh _⟩
  clear R hrow hx hrow1 B0
  go_enter Try.func15, Try.ntmps15
  go_wp2
  clear c5 f5 c4
  generalize w.setCell ⟨h, 5, none⟩ (.slice none 0 0) = w1 at *
  go_loopg [2, 4, 13] n (fun g s2 s4 s13 wr => ∃ (k m : Nat) (off : Int) (xs : List (Int × Int)) (pa : Option Addr) (pc : Nat), s2 = .int .i64 off ∧ s13 = .int .i64 k ∧ k ≤ n ∧ n - k ≤ g ∧ xs.length = m ∧ m ≤ k ∧ xs ++ pads A P (n - k) k off = L ∧ wr.rowIs h 32 6 (iv name len (.slice a n c) (.slice pa m pc)) ∧ wr.ownsRow (h + 1) 44 2 (.slice pa m pc) m (spanCells xs) ∧ Below w0.heap.size w0 wr)
  case atStart => exact ⟨0, 0, 0, [], none, 0, rfl, rfl, Nat.zero_le _, by omega, rfl, Nat.le_refl _, HL.out, Z0.out.1, World.ownsRow_nil _ _ _ _, Z0.out.2⟩
  case round =>
    clear Z0
    obtain ⟨k, m, off, xs, pa, pc, rfl, rfl, hk, hg, hxm, hmk, hL, hrow, hown, hbel⟩ := hrel
    by_cases hlt : k < n
    · obtain ⟨b, o, rfl, hbl, d1, d2, d3⟩ := RR.out.addr (by omega)
      have e1 := (hbel.cell (p := ⟨b, o + k * 3, none⟩) hbl).trans (d1 k hlt)
      have e2 := (hbel.cell (p := ⟨b, o + k * 3 + 1, none⟩) hbl).trans (d2 k hlt)
      have e3 := (hbel.cell (p := ⟨b, o + k * 3 + 2, none⟩) hbl).trans (d3 k hlt)
      have hbr : b < wr.heap.size := Nat.lt_of_lt_of_le hbl hbel.size
      clear d1 d2 d3
      have Z : Aside (wr.rowIs h 32 6 (iv name len (.slice (some ⟨b, o, none⟩) n c) (.slice pa m pc)) ∧ wr.ownsRow (h + 1) 44 2 (.slice pa m pc) m (spanCells xs) ∧ Below w0.heap.size w0 wr) := ⟨hrow, hown, hbel⟩
      have HX : Aside (xs.length = m ∧ xs ++ pads A P (n - k) k off = L) := ⟨hxm, hL⟩
      clear hrow hown hbel hxm hL
      generalize HA : A k = x at e1
      generalize HS : S k = s at e2
      generalize HP : P k = p at e3
      have HAP : Aside (A k = x ∧ P k = p) := ⟨HA, HP⟩
      clear HA HS HP
      have hfr : h < wr.heap.size := Z.out.1.lt
      have hf : Aside (n - k = n - (k + 1) + 1) := by show n - k = _; omega
      cases p with
      | false =>
        go_upto_if 23 with fail
        obtain ⟨W4, HW4⟩ : ∃ W4, Aside (wr.alloc (.cells #[.int .i64 x, .string s, .bool false] 41) = W4) := ⟨_, rfl⟩
        have Z4 : Aside (W4.rowIs h 32 6 (iv name len (.slice (some ⟨b, o, none⟩) n c) (.slice pa m pc)) ∧ W4.ownsRow (h + 1) 44 2 (.slice pa m pc) m (spanCells xs) ∧ Below w0.heap.size w0 W4) := by
          rw [← HW4.out]
          exact ⟨Z.out.1.alloc _, Z.out.2.1.alloc _, Z.out.2.2.alloc Z.out.2.2.size _⟩
        have hs4 : W4.heap.size = wr.heap.size + 1 := by rw [← HW4.out]; simp
        have c40 : W4.cell? ⟨wr.heap.size, 0, none⟩ = some (.int .i64 x) := by rw [← HW4.out]; simp
        have OB : Aside (∀ j, (Value.slice pa m pc).ownBlock = some j → j < wr.heap.size) := fun j hj => (Z.out.2.1.lt j hj).2
        rw [HW4.out]
        clear HW4 Z e1 e2 e3
        have HS4 : Aside (W4.heap.size = wr.heap.size + 1) := hs4
        clear hs4
        go_wp2
        go_roundg (n - (k + 1))
        case measure => omega
        case rel =>
          refine ⟨k + 1, m, wrap64 (off + x), xs, pa, pc, rfl, by go_num, by omega, by omega, HX.out.1, by omega, ?_, Z4.out.1, Z4.out.2.1, Z4.out.2.2⟩
          have e := HX.out.2
          rw [hf.out, pads_no A P _ k off (by rw [HAP.out.1, HAP.out.2]; exact fun h => Bool.noConfusion h.1), HAP.out.1] at e
          exact e
      | true =>
        go_upto_if 23 with fail
        obtain ⟨W4, HW4⟩ : ∃ W4, Aside (wr.alloc (.cells #[.int .i64 x, .string s, .bool true] 41) = W4) := ⟨_, rfl⟩
        have Z4 : Aside (W4.rowIs h 32 6 (iv name len (.slice (some ⟨b, o, none⟩) n c) (.slice pa m pc)) ∧ W4.ownsRow (h + 1) 44 2 (.slice pa m pc) m (spanCells xs) ∧ Below w0.heap.size w0 W4) := by
          rw [← HW4.out]
          exact ⟨Z.out.1.alloc _, Z.out.2.1.alloc _, Z.out.2.2.alloc Z.out.2.2.size _⟩
        have hs4 : W4.heap.size = wr.heap.size + 1 := by rw [← HW4.out]; simp
        have c40 : W4.cell? ⟨wr.heap.size, 0, none⟩ = some (.int .i64 x) := by rw [← HW4.out]; simp
        have OB : Aside (∀ j, (Value.slice pa m pc).ownBlock = some j → j < wr.heap.size) := fun j hj => (Z.out.2.1.lt j hj).2
        rw [HW4.out]
        clear HW4 Z e1 e2 e3
        have HS4 : Aside (W4.heap.size = wr.heap.size + 1) := hs4
        clear hs4
        by_cases hx0 : 0 < x
        · have hb1 : decide (0 < x) = true := decide_eq_true hx0
          have OW : Aside (∀ oo, (W4.alloc oo).drew.ownsRow (h + 1) 44 2 (.slice pa m pc) m (spanCells xs)) := fun oo => World.ownsRow.alloc (w := W4) Z4.out.2.1 oo
          have RW : Aside (∀ oo, (W4.alloc oo).drew.rowIs h 32 6 (iv name len (.slice (some ⟨b, o, none⟩) n c) (.slice pa m pc))) := fun oo => World.rowIs.alloc (w := W4) Z4.out.1 oo
          have FC : Aside (∀ oo, (W4.alloc oo).drew.cell? ⟨wr.heap.size, 0, none⟩ = some (.int .i64 x)) := fun oo => cell_later (w := W4) ((Below.refl _ _).alloc (Nat.le_refl _) oo).drew c40
          have hfne : wr.heap.size ≠ h := by omega
          have r5 : W4.cell? ⟨h, 5, none⟩ = some (.slice pa m pc) := Z4.out.1.cell (by omega)
          have hsz4 : h < W4.heap.size := Z4.out.1.lt
          have hfb4 : wr.heap.size < W4.heap.size := by rw [HS4.out]; omega
          obtain ⟨i0, hi, hz0, hz1, hz2⟩ := info_parts info44
          have II : Aside (Try.prog.info? 44 = some i0 ∧ i0.zero = some (.agg #[.int .i64 0, .int .i64 0]) ∧ i0.size = 2 ∧ i0.bytes = 16) := ⟨hi, hz0, hz1, hz2⟩
          clear hi hz0 hz1 hz2
          go_wp2
          go_region_law (refine step_append_lies _ rfl (.tmp 28) (.tmp 35) 30 rfl (h + 1) 44 i0 (.agg #[.int .i64 0, .int .i64 0]) 2 16 Try.underlying30 II.out.1 II.out.2.1 II.out.2.2.1 II.out.2.2.2 rfl (by omega) (.slice pa m pc) m (spanCells xs) (by simp [Act.eval]) (OW.out _) ⟨W4.heap.size, 0, none⟩ 1 1 [.int .i64 off, .int .i64 (IntKind.i64.wrap (off + x))] (by simp [Act.eval]) rfl (two_newD W4 off (IntKind.i64.wrap (off + x))) (ints_oneCell .i64 [off, IntKind.i64.wrap (off + x)]) (by omega) (by unfold maxLen; omega) (by omega) (by simp; omega) (W4.heap.size + 1) (by simp) ?_; intro g2 cap2 w3 hown3 hgrow3 hat3 hlt3; have hr3 := row_grown (RW.out _) (OW.out _) hgrow3; have t5 := hr3.cell (i := 5) (by omega); have f5 := hr3.frozen 5; have t5' : w3.cell? ⟨h, 5, none⟩ = some (.slice pa m pc) := t5; have Z5 : Aside (w3.rowIs h 32 6 (iv name len (.slice (some ⟨b, o, none⟩) n c) (.slice pa m pc)) ∧ w3.ownsRow (h + 1) 44 2 (.slice (some ⟨g2, 0, none⟩) (m + 1) cap2) (m + 1) (spanCells xs ++ [.int .i64 off, .int .i64 (IntKind.i64.wrap (off + x))]) ∧ (W4.alloc (.cells #[.int .i64 off, .int .i64 (IntKind.i64.wrap (off + x))] 44)).drew.grownBy w3 (Value.slice pa m pc).ownBlock) := ⟨hr3, hown3, hgrow3⟩; have tf := (hgrow3.cell_far ⟨wr.heap.size, 0, none⟩ (by show wr.heap.size < (W4.alloc _).heap.size; simp; omega) (fun e => absurd (OB.out _ e.symm) (Nat.lt_irrefl _))).trans (FC.out _); clear hr3 t5 hown3 hgrow3 hat3)
          all_goals
            go_wp2
            go_roundg (n - (k + 1))
            case measure => omega
            case rel =>
              obtain ⟨z1, z2, z3⟩ := Z5.out
              have hw : IntKind.i64.wrap (off + x) = wrap64 (off + x) := by rw [IntKind.wrap_i64, wrap64]
              rw [hw] at z2 z3
              refine ⟨k + 1, m + 1, wrap64 (off + x), xs ++ [(off, wrap64 (off + x))], some ⟨g2, 0, none⟩, cap2, rfl, by go_num, by omega, by omega, by rw [List.length_append, HX.out.1]; rfl, by omega, ?_, iv_set z1, ownsRow_setCell_below (by rw [spanCells, List.flatMap_append]; exact z2) (Nat.lt_succ_self h) _, Below.setCell (Below.grown (Below.drew (Z4.out.2.2.alloc Z4.out.2.2.size _)) z3 (Nat.le_trans Z4.out.2.2.size (by simp)) (fun j hj => Nat.le_trans hh (Nat.le_of_lt (Z4.out.2.1.lt j hj).1))) hh _⟩
              have e := HX.out.2
              rw [hf.out, pads_yes A P _ k off HAP.out.2 (by rw [HAP.out.1]; exact hx0), HAP.out.1] at e
              rw [List.append_assoc]
              exact e
        · have hb1 : decide (0 < x) = false := decide_eq_false hx0
          go_wp2
          go_roundg (n - (k + 1))
          case measure => omega
          case rel =>
            refine ⟨k + 1, m, wrap64 (off + x), xs, pa, pc, rfl, by go_num, by omega, by omega, HX.out.1, by omega, ?_, Z4.out.1, Z4.out.2.1, Z4.out.2.2⟩
            have e := HX.out.2
            rw [hf.out, pads_no A P _ k off (by rw [HAP.out.1, HAP.out.2]; exact fun h => absurd h.2 (by omega)), HAP.out.1] at e
            exact e
    · have e : n = k := by omega
      subst e
      have Z : Aside (xs.length = m ∧ xs ++ pads A P (n - n) n off = L ∧ wr.rowIs h 32 6 (iv name len (.slice a n c) (.slice pa m pc)) ∧ wr.ownsRow (h + 1) 44 2 (.slice pa m pc) m (spanCells xs) ∧ Below w0.heap.size w0 wr) := ⟨hxm, hL, hrow, hown, hbel⟩
      clear hxm hL hrow hown hbel
      go_wp2
      go_end0
      obtain ⟨h1, h2, h3, h4, h5⟩ := Z.out
      rw [Nat.sub_self] at h2
      have h6 : xs = L := by simpa [pads] using h2
      subst h6
      subst h1
      exact ⟨rfl, pa, pc, h3, h4, h5⟩

end Go.Proofs.Qxb6629367a.W
