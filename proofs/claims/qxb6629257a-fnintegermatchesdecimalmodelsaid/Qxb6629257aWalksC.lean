import Derived.Test.Qxb6629257aPlainA
import Derived.Deep.DeepCutAuto
import Derived.Deep.CutBlock
namespace Go.Proofs.Qxb6629257a.W
open Go.RowKit
set_option linter.unusedVariables false
set_option maxRecDepth 100000

/-- The digits of a numeral as one row, in memory: the whole part's, then the fraction's. -/
structure RowOf (w : World) (wa : Option Addr) (wl : Nat) (fa : Option Addr) (fl : Nat) (D : Nat → Int) : Prop where
  whole : ∀ i, i < wl → ∃ b o, wa = some ⟨b, o, none⟩ ∧ w.cell? ⟨b, o + i, none⟩ = some (.int .u8 (D i))
  frac : ∀ i, i < fl → ∃ b o, fa = some ⟨b, o, none⟩ ∧ w.cell? ⟨b, o + i, none⟩ = some (.int .u8 (D (wl + i)))

set_option maxHeartbeats 1000000 in
/-- The closure 'digit'. -/
theorem digit_at (N K wl wc fl fc i : Nat) (nv ev : Value) (wa fa : Option Addr) (D : Nat → Int) (w : World)
    (hw : w.cell? ⟨N, 1, none⟩ = some (.slice wa wl wc)) (hf : w.cell? ⟨N, 2, none⟩ = some (.slice fa fl fc))
    (hk : w.cell? ⟨K, 0, none⟩ = some (.int .i64 ((wl : Int) + (fl : Int)))) (R : RowOf w wa wl fa fl D) (hm : wl ≤ 10000000) (hm2 : fl ≤ 10000000) (hi : i ≤ 100000000) :
    Calls Try.prog 16 #[.int .i64 i, .pointer (some ⟨K, 0, none⟩), .pointer (some ⟨N, 0, none⟩)] w fun e w' => e = .returned (.int .u8 (if i < wl + fl then D i else 48)) ∧ w = w' := by
  by_cases h1 : i < wl + fl
  · rw [if_pos h1]
    by_cases h2 : i < wl
    · obtain ⟨b, o, rfl, hc⟩ := R.whole i h2
      clear R
      go_enter Try.func16, Try.ntmps16
      go_wp2
      go_ret
      exact ⟨rfl, rfl⟩
    · obtain ⟨b, o, rfl, hc⟩ := R.frac (i - wl) (by omega)
      rw [show wl + (i - wl) = i from by omega] at hc
      clear R
      go_enter Try.func16, Try.ntmps16
      go_wp2
      go_ret
      exact ⟨rfl, rfl⟩
  · rw [if_neg h1]
    clear R
    go_enter Try.func16, Try.ntmps16
    go_wp2
    go_ret
    exact ⟨rfl, rfl⟩

/-- The exponent, read digit by digit up to a bound. -/
def expAt (E : Nat → Int) (B : Int) : Nat → Int
  | 0 => 0
  | k + 1 => min (expAt E B k * 10 + (E k - 48)) B

theorem expAt_bd (E : Nat → Int) (B : Int) (m : Nat) (hB : 0 ≤ B) (hE : ∀ k, k < m → 48 ≤ E k ∧ E k ≤ 57) : ∀ k, k ≤ m → 0 ≤ expAt E B k ∧ expAt E B k ≤ B
  | 0, _ => ⟨Int.le_refl _, hB⟩
  | k + 1, h => by
    have ih := expAt_bd E B m hB hE k (by omega)
    have := hE k (by omega)
    show 0 ≤ min (expAt E B k * 10 + (E k - 48)) B ∧ min (expAt E B k * 10 + (E k - 48)) B ≤ B
    omega

def dgt (D : Nat → Int) (count i : Nat) : Int := if i < count then D i - 48 else 0
def valAt (D : Nat → Int) (count : Nat) : Nat → Int
  | 0 => 0
  | k + 1 => valAt D count k * 10 + dgt D count k
def Bad (D : Nat → Int) (count : Nat) (point : Int) : Prop := ∃ i : Nat, point ≤ (i : Int) ∧ i < count ∧ D i ≠ 48
def limOf (neg : Bool) : Int := if neg then 9223372036854775808 else 9223372036854775807
def exOf (sgn : Bool) (x : Int) : Int := if sgn then -x else x
def signed (neg : Bool) (v : Int) : Int := if neg then -v else v

/-- What 'integer' answers. -/
def IntRes (neg : Bool) (D : Nat → Int) (count : Nat) (point v : Int) (ok : Bool) : Prop :=
  (Bad D count point ∧ v = 0 ∧ ok = false) ∨
  (¬ Bad D count point ∧ valAt D count point.toNat ≤ limOf neg ∧ v = signed neg (valAt D count point.toNat) ∧ ok = true) ∨
  (¬ Bad D count point ∧ limOf neg < valAt D count point.toNat ∧ v = 0 ∧ ok = false)

theorem RowOf.drewN {w : World} {wa : Option Addr} {wl : Nat} {fa : Option Addr} {fl : Nat} {D : Nat → Int} (h : RowOf w wa wl fa fl D) (q : Nat) : RowOf (w.drewN q) wa wl fa fl D := ⟨h.whole, h.frac⟩

theorem dgt_bd {D : Nat → Int} {count : Nat} (hD : ∀ i, i < count → 48 ≤ D i ∧ D i ≤ 57) (k : Nat) : 0 ≤ dgt D count k ∧ dgt D count k ≤ 9 := by
  unfold dgt
  split
  · rename_i h; have := hD k h; omega
  · omega

theorem valAt_nn {D : Nat → Int} {count : Nat} (hD : ∀ i, i < count → 48 ≤ D i ∧ D i ≤ 57) : ∀ k, 0 ≤ valAt D count k
  | 0 => Int.le_refl _
  | k + 1 => by
    have := valAt_nn hD k
    have := dgt_bd hD k
    show 0 ≤ valAt D count k * 10 + dgt D count k
    omega

theorem valAt_mono {D : Nat → Int} {count : Nat} (hD : ∀ i, i < count → 48 ≤ D i ∧ D i ≤ 57) (k : Nat) : ∀ j, k ≤ j → valAt D count k ≤ valAt D count j := by
  intro j h
  induction j with
  | zero => have : k = 0 := by omega
            subst this; exact Int.le_refl _
  | succ j ih =>
    by_cases e : k = j + 1
    · subst e; exact Int.le_refl _
    · have := ih (by omega)
      have := valAt_nn hD j
      have := dgt_bd hD j
      show valAt D count k ≤ valAt D count j * 10 + dgt D count j
      omega

theorem wrap_neg (v : Int) (h0 : 0 ≤ v) (h1 : v ≤ 9223372036854775808) : wrap64 (-(wrap64 v)) = -v := by unfold wrap64; omega
theorem wrap_pos (v : Int) (h0 : 0 ≤ v) (h1 : v ≤ 9223372036854775807) : wrap64 v = v := by unfold wrap64; omega
theorem tup2 {a b : Int} {x y : Bool} (h : a = b) (h' : x = y) : Ending.returned (.tuple #[.int .i64 a, .bool x]) = .returned (.tuple #[.int .i64 b, .bool y]) := by rw [h, h']

/-- The exponent's bytes in memory: none; digits; a sign and digits. -/
def ExpOf (w : World) (xa : Option Addr) (xl m : Nat) (E : Nat → Int) (sg sgn : Bool) : Prop :=
  (xl = 0 ∧ m = 0 ∧ sg = false ∧ sgn = false) ∨
  (∃ b o, xa = some ⟨b, o, none⟩ ∧ sg = false ∧ sgn = false ∧ xl = m ∧ 0 < m ∧ ∀ k, k < m → w.cell? ⟨b, o + k, none⟩ = some (.int .u8 (E k))) ∨
  (∃ b o x, xa = some ⟨b, o, none⟩ ∧ sg = true ∧ w.cell? ⟨b, o, none⟩ = some (.int .u8 x) ∧ ((x = 43 ∧ sgn = false) ∨ (x = 45 ∧ sgn = true)) ∧ xl = m + 1 ∧ 0 < m ∧ ∀ k, k < m → w.cell? ⟨b, o + 1 + k, none⟩ = some (.int .u8 (E k)))

set_option maxHeartbeats 4000000 in
theorem integer_at (wl wc fl fc xl xc m : Nat) (neg sg sgn : Bool) (wa fa xa : Option Addr) (D E : Nat → Int) (w : World) (hm : wl ≤ 10000000) (hm2 : fl ≤ 10000000) (hm3 : m ≤ 10000000) (hxc : xl ≤ xc) (hxc2 : xc ≤ 9223372036854775807)
    (R : RowOf w wa wl fa fl D) (X : ExpOf w xa xl m E sg sgn) (hE : ∀ k, k < m → 48 ≤ E k ∧ E k ≤ 57) (hD : ∀ i, i < wl + fl → 48 ≤ D i ∧ D i ≤ 57) :
    Calls Try.prog 11 #[.agg #[.bool neg, .slice wa wl wc, .slice fa fl fc, .slice xa xl xc]] w fun e w' => ∃ v ok, e = .returned (.tuple #[.int .i64 v, .bool ok]) ∧
      IntRes neg D (wl + fl) ((wl : Int) + exOf sgn (expAt E ((wl : Int) + (fl : Int) + 20) m)) v ok ∧ Below w.heap.size w w' := by
  have B0 : Aside (Below w.heap.size w ((w.alloc (.cells #[.bool neg, .slice wa wl wc, .slice fa fl fc, .slice xa xl xc] 35)).alloc (.cells #[.int .i64 ((wl : Int) + (fl : Int))] 3))) := ((Below.refl _ _).alloc (Nat.le_refl _) _).alloc (by simp) _
  have c0 : ((w.alloc (.cells #[.bool neg, .slice wa wl wc, .slice fa fl fc, .slice xa xl xc] 35)).alloc (.cells #[.int .i64 ((wl : Int) + (fl : Int))] 3)).cell? ⟨w.heap.size, 0, none⟩ = some (.bool neg) := by simp
  have c1 : ((w.alloc (.cells #[.bool neg, .slice wa wl wc, .slice fa fl fc, .slice xa xl xc] 35)).alloc (.cells #[.int .i64 ((wl : Int) + (fl : Int))] 3)).cell? ⟨w.heap.size, 1, none⟩ = some (.slice wa wl wc) := by simp
  have c2 : ((w.alloc (.cells #[.bool neg, .slice wa wl wc, .slice fa fl fc, .slice xa xl xc] 35)).alloc (.cells #[.int .i64 ((wl : Int) + (fl : Int))] 3)).cell? ⟨w.heap.size, 2, none⟩ = some (.slice fa fl fc) := by simp
  have c3 : ((w.alloc (.cells #[.bool neg, .slice wa wl wc, .slice fa fl fc, .slice xa xl xc] 35)).alloc (.cells #[.int .i64 ((wl : Int) + (fl : Int))] 3)).cell? ⟨w.heap.size, 3, none⟩ = some (.slice xa xl xc) := by simp
  have c4 : ((w.alloc (.cells #[.bool neg, .slice wa wl wc, .slice fa fl fc, .slice xa xl xc] 35)).alloc (.cells #[.int .i64 ((wl : Int) + (fl : Int))] 3)).cell? ⟨w.heap.size + 1, 0, none⟩ = some (.int .i64 ((wl : Int) + (fl : Int))) := by simp
  have P0 : Aside (RowOf w wa wl fa fl D ∧ ExpOf w xa xl m E sg sgn ∧ (∀ k, k < m → 48 ≤ E k ∧ E k ≤ 57) ∧ (∀ i, i < wl + fl → 48 ≤ D i ∧ D i ≤ 57)) := ⟨R, X, hE, hD⟩
  clear R X hE hD
  go_enter Try.func11, Try.ntmps11
  go_upto_region 2 with fail
  generalize hW : (w.alloc (.cells #[.bool neg, .slice wa wl wc, .slice fa fl fc, .slice xa xl xc] 35)).alloc (.cells #[.int .i64 ((wl : Int) + (fl : Int))] 3) = W at *
  clear hW
  have P1 : Aside (RowOf W wa wl fa fl D ∧ ExpOf W xa xl m E sg sgn) := by
    obtain ⟨R, X, _, _⟩ := P0.out
    have hb : ∀ (b o : Nat) (v : Value), w.cell? ⟨b, o, none⟩ = some v → W.cell? ⟨b, o, none⟩ = some v := fun b o v h => cell_later B0.out h
    refine ⟨⟨fun i hi => ?_, fun i hi => ?_⟩, ?_⟩
    · obtain ⟨b, o, e, h⟩ := R.whole i hi
      exact ⟨b, o, e, hb _ _ _ h⟩
    · obtain ⟨b, o, e, h⟩ := R.frac i hi
      exact ⟨b, o, e, hb _ _ _ h⟩
    · rcases X with X | ⟨b, o, e, s1, s2, e1, e2, h⟩ | ⟨b, o, x, e, s1, h1, h2, e1, e2, h⟩
      · exact .inl X
      · exact .inr (.inl ⟨b, o, e, s1, s2, e1, e2, fun k hk => hb _ _ _ (h k hk)⟩)
      · exact .inr (.inr ⟨b, o, x, e, s1, hb _ _ _ h1, h2, e1, e2, fun k hk => hb _ _ _ (h k hk)⟩)
  have P2 : Aside ((∀ k, k < m → 48 ≤ E k ∧ E k ≤ 57) ∧ (∀ i, i < wl + fl → 48 ≤ D i ∧ D i ≤ 57)) := ⟨P0.out.2.2.1, P0.out.2.2.2⟩
  clear P0
  go_quiet (fail)
  go_upto_region 4 with fail
  go_cut [43] (fun s wc => s = .bool sg ∧ W.drewN nq = wc)
  case first =>
    rcases P1.out.2 with ⟨rfl, rfl, rfl, rfl⟩ | ⟨b, o, rfl, rfl, rfl, rfl, hm0, h⟩ | ⟨b, o, x, rfl, rfl, h1, h2, rfl, hm0, h⟩
    · clear P1
      go_wp2_with fail
      go_meet
      case rel => exact ⟨rfl, rfl⟩
    · have hc := h 0 hm0
      have hx := P2.out.1 0 hm0
      clear h P1
      generalize E 0 = x at *
      rw [Nat.add_zero] at hc
      have x43 : (x == 43) = false := beq_eq_false_iff_ne.2 (by omega)
      have x45 : (x == 45) = false := beq_eq_false_iff_ne.2 (by omega)
      go_wp2_with fail
      go_meet
      case rel => exact ⟨rfl, rfl⟩
    · clear h P1
      rcases h2 with ⟨rfl, rfl⟩ | ⟨rfl, rfl⟩
      · go_wp2_with fail
        go_meet
        case rel => exact ⟨rfl, rfl⟩
      · go_wp2_with fail
        go_meet
        case rel => exact ⟨rfl, rfl⟩
  case rest =>
    obtain ⟨rfl, rfl⟩ := hcut
    go_upto_if 43 with fail
    go_cut [7, 8] (fun s7 s8 wc => ∃ ya yc q, s7 = .slice ya m yc ∧ s8 = .bool sgn ∧ W.drewN q = wc ∧ (0 < m → ∃ b o, ya = some ⟨b, o, none⟩ ∧ ∀ k, k < m → W.cell? ⟨b, o + k, none⟩ = some (.int .u8 (E k))))
    case first =>
      rcases P1.out.2 with ⟨rfl, rfl, rfl, rfl⟩ | ⟨b, o, rfl, rfl, rfl, rfl, hm0, h⟩ | ⟨b, o, x, rfl, rfl, h1, h2, rfl, hm0, h⟩
      · clear P1
        go_wp2_with fail
        go_meet
        case rel => exact ⟨_, _, _, rfl, rfl, rfl, fun h => absurd h (Nat.lt_irrefl _)⟩
      · have H : Aside (∀ k, k < xl → W.cell? ⟨b, o + k, none⟩ = some (.int .u8 (E k))) := h
        clear P1 h
        go_wp2_with fail
        go_meet
        case rel => exact ⟨_, _, _, rfl, rfl, rfl, fun _ => ⟨_, _, rfl, H.out⟩⟩
      · have H : Aside (∀ k, k < m → W.cell? ⟨b, o + 1 + k, none⟩ = some (.int .u8 (E k))) := h
        clear P1 h
        rcases h2 with ⟨rfl, rfl⟩ | ⟨rfl, rfl⟩
        · go_wp2_with fail
          go_quiet (fail)
          go_wp2_with fail
          go_meet
          case rel => exact ⟨_, _, _, rfl, rfl, (World.drewN_drewN _ _ _).symm, fun _ => ⟨_, _, rfl, H.out⟩⟩
        · go_wp2_with fail
          go_quiet (fail)
          go_wp2_with fail
          go_meet
          case rel => exact ⟨_, _, _, rfl, rfl, (World.drewN_drewN _ _ _).symm, fun _ => ⟨_, _, rfl, H.out⟩⟩
    case rest =>
      obtain ⟨ya, yc, q, rfl, rfl, rfl, hy⟩ := hcut
      have P3 : Aside (RowOf W wa wl fa fl D) := P1.out.1
      have HY : Aside (0 < m → ∃ b o, ya = some ⟨b, o, none⟩ ∧ ∀ k, k < m → W.cell? ⟨b, o + k, none⟩ = some (.int .u8 (E k))) := hy
      clear P1 hy
      go_upto_block 0 with fail
      go_cut [5] (fun s5 wc => s5 = .int .i64 (expAt E ((wl : Int) + (fl : Int) + 20) m) ∧ ∃ q, W.drewN q = wc)
      case first =>
        go_wp2_with fail
        go_loopg [5, 52] m (fun g s5 s52 wr => ∃ k : Nat, s5 = .int .i64 (expAt E ((wl : Int) + (fl : Int) + 20) k) ∧ s52 = .int .i64 k ∧ k ≤ m ∧ m - k ≤ g ∧ W.drewN q = wr)
        case atStart => exact ⟨0, rfl, rfl, Nat.zero_le _, Nat.le_refl _, rfl⟩
        case round =>
          obtain ⟨k, rfl, rfl, hk, hg, rfl⟩ := hrel
          have hb := expAt_bd E ((wl : Int) + (fl : Int) + 20) m (by omega) P2.out.1 k hk
          by_cases hlt : k < m
          · obtain ⟨b, o, rfl, hc⟩ := HY.out (by omega)
            have hck := hc k hlt
            have hEk := P2.out.1 k hlt
            have HS : Aside (expAt E ((wl : Int) + (fl : Int) + 20) (k + 1) = min (expAt E ((wl : Int) + (fl : Int) + 20) k * 10 + (E k - 48)) ((wl : Int) + (fl : Int) + 20)) := rfl
            clear hc
            generalize expAt E ((wl : Int) + (fl : Int) + 20) k = x at *
            generalize E k = y at *
            go_wp2_with fail
            all_goals
              go_roundg (m - (k + 1))
              case measure => omega
              case rel => exact ⟨k + 1, by rw [HS.out]; exact congrArg (Value.int .i64) (by omega), by go_num, by omega, by omega, rfl⟩
          · have e : k = m := by omega
            subst e
            go_wp2_with fail
            go_meet
            case rel => exact ⟨rfl, _, rfl⟩
      case rest =>
        obtain ⟨rfl, q2, rfl⟩ := hcut
        have hb := expAt_bd E ((wl : Int) + (fl : Int) + 20) m (by omega) P2.out.1 m (Nat.le_refl _)
        clear HY
        obtain ⟨ex, EX⟩ : ∃ ex, Aside (exOf sgn (expAt E ((wl : Int) + (fl : Int) + 20) m) = ex) := ⟨_, rfl⟩
        have hex1 : -((wl : Int) + (fl : Int) + 20) ≤ ex ∧ ex ≤ (wl : Int) + (fl : Int) + 20 := by
          rw [← EX.out]
          unfold exOf
          split <;> omega
        go_upto_if 65 with fail
        go_cut [5] (fun s5 wc => s5 = .int .i64 ex ∧ W.drewN q2 = wc)
        case first =>
          have EX2 := EX
          generalize expAt E ((wl : Int) + (fl : Int) + 20) m = x at hb EX2 ⊢
          cases sgn with
          | true =>
            go_wp2_with fail
            go_meet
            case rel => exact ⟨by rw [← EX2.out]; rfl, rfl⟩
          | false =>
            go_wp2_with fail
            go_meet
            case rel => exact ⟨by rw [← EX2.out]; rfl, rfl⟩
        case rest =>
          obtain ⟨rfl, rfl⟩ := hcut
          clear hb
          go_upto_block 2 with fail
          obtain ⟨pt, PT⟩ : ∃ pt, Aside ((wl : Int) + ex = pt) := ⟨_, rfl⟩
          have hpt : -((fl : Int) + 20) ≤ pt ∧ pt ≤ (wl : Int) + (wl : Int) + (fl : Int) + 20 := by rw [← PT.out]; omega
          obtain ⟨p0, P0⟩ : ∃ p0 : Nat, Aside (p0 = pt.toNat) := ⟨_, rfl⟩
          rw [PT.out, show (if pt < 0 then (0 : Int) else pt) = (p0 : Int) by rw [P0.out]; split <;> omega]
          clear hex1
          go_cut [] (fun wc => W.drewN q2 = wc ∧ ¬ Bad D (wl + fl) pt)
          case first =>
            go_wp2_with fail
            go_loopg [13] (wl + fl + 1) (fun g s wr => ∃ i : Nat, s = .int .i64 i ∧ pt ≤ (i : Int) ∧ (i : Int) ≤ (wl : Int) + (wl : Int) + (fl : Int) + 20 ∧ wl + fl + 1 - i ≤ g ∧ W.drewN q2 = wr ∧ ∀ j : Nat, pt ≤ (j : Int) → j < i → j < wl + fl → D j = 48)
            case atStart => exact ⟨p0, rfl, by have := P0.out; omega, by have := P0.out; omega, by omega, rfl, fun j h1 h2 => by have := P0.out; omega⟩
            case round =>
              obtain ⟨i, rfl, hi1, hi2, hg, rfl, hz⟩ := hrel
              have Z : Aside (∀ j : Nat, pt ≤ (j : Int) → j < i → j < wl + fl → D j = 48) := hz
              clear hz
              by_cases hlt : i < wl + fl
              · have hcon := digit_at w.heap.size (w.heap.size + 1) wl wc fl fc i (.bool neg) (.slice xa xl xc) wa fa D (W.drewN q2) c1 c2 c4 (P3.out.drewN q2) hm hm2 (by omega)
                rw [if_pos hlt] at hcon
                have H : Hid _ := hcon
                clear hcon
                by_cases hd : D i = 48
                · have HD : Aside (D i = 48) := hd
                  rw [hd] at H
                  clear hd
                  go_wp2_with (go_at_call 16; refine Calls.mono H.out ?_; rintro _ w' ⟨rfl, rfl⟩)
                  go_roundg (wl + fl + 1 - (i + 1))
                  case measure => omega
                  case rel =>
                    refine ⟨i + 1, by go_num, by omega, by omega, by omega, rfl, fun j h1 h2 h3 => ?_⟩
                    by_cases e : j = i
                    · subst e; exact HD.out
                    · exact Z.out j h1 (by omega) h3
                · have HD : Aside (D i ≠ 48) := hd
                  have hne : (D i != 48) = true := by rw [bne_iff_ne]; exact hd
                  clear hd
                  generalize D i = y at H hne
                  go_wp2_with (go_at_call 16; refine Calls.mono H.out ?_; rintro _ w' ⟨rfl, rfl⟩)
                  go_ret2
                  exact ⟨0, false, rfl, .inl ⟨⟨i, by rw [EX.out, PT.out]; exact hi1, hlt, HD.out⟩, rfl, rfl⟩, below_drewN B0.out _⟩
              · go_wp2_with fail
                go_meet
                case rel => exact ⟨rfl, fun ⟨j, h1, h2, h3⟩ => h3 (Z.out j h1 (by omega) h2)⟩
          case rest =>
            obtain ⟨rfl, hnb⟩ := hcut
            have NB : Aside (¬ Bad D (wl + fl) pt) := hnb
            clear hnb
            obtain ⟨lim, LM⟩ : ∃ lim, Aside (limOf neg = lim) := ⟨_, rfl⟩
            have hl1 : 9223372036854775807 ≤ lim ∧ lim ≤ 9223372036854775808 := by
              rw [← LM.out]; unfold limOf; split <;> omega
            go_upto_if 86 with fail
            go_cut [14] (fun s14 wc => s14 = .int .u64 lim ∧ W.drewN q2 = wc)
            case first =>
              have LM2 := LM
              clear hl1
              cases neg with
              | true =>
                go_wp2_with fail
                go_meet
                case rel => exact ⟨by rw [← LM2.out]; rfl, rfl⟩
              | false =>
                go_wp2_with fail
                go_meet
                case rel => exact ⟨by rw [← LM2.out]; rfl, rfl⟩
            case rest =>
              obtain ⟨rfl, rfl⟩ := hcut
              go_wp2_with fail
              go_loopg [15, 16] (p0 + 1) (fun g s15 s16 wr => ∃ k : Nat, s15 = .int .u64 (valAt D (wl + fl) k) ∧ s16 = .int .i64 k ∧ k ≤ p0 ∧ p0 + 1 - k ≤ g ∧ W.drewN q2 = wr ∧ valAt D (wl + fl) k ≤ lim)
              case atStart => exact ⟨0, rfl, rfl, Nat.zero_le _, by omega, rfl, by show (0 : Int) ≤ lim; omega⟩
              case round =>
                obtain ⟨k, rfl, rfl, hk, hg, rfl, hv⟩ := hrel
                have hv0 := valAt_nn P2.out.2 k
                have hd0 := dgt_bd P2.out.2 k
                by_cases hlt : k < p0
                · have hkp : (k : Int) < pt := by have := P0.out; omega
                  have hcon := digit_at w.heap.size (w.heap.size + 1) wl wc fl fc k (.bool neg) (.slice xa xl xc) wa fa D (W.drewN q2) c1 c2 c4 (P3.out.drewN q2) hm hm2 (by omega)
                  have ed : (if k < wl + fl then D k else 48) = dgt D (wl + fl) k + 48 := by unfold dgt; split <;> omega
                  rw [ed] at hcon
                  have H : Hid _ := hcon
                  clear hcon ed
                  have VS : Aside (valAt D (wl + fl) (k + 1) = valAt D (wl + fl) k * 10 + dgt D (wl + fl) k) := rfl
                  have VM : Aside (valAt D (wl + fl) (k + 1) ≤ valAt D (wl + fl) p0) := valAt_mono P2.out.2 (k + 1) p0 hlt
                  generalize dgt D (wl + fl) k = d at H VS hd0
                  generalize valAt D (wl + fl) k = x at VS hv hv0 ⊢
                  by_cases hover : x * 10 + d ≤ lim
                  · have hq : ¬ (lim - d) / 10 < x := by omega
                    go_wp2_with (go_at_call 16; refine Calls.mono H.out ?_; rintro _ w' ⟨rfl, rfl⟩)
                    go_roundg (p0 + 1 - (k + 1))
                    case measure => omega
                    case rel => exact ⟨k + 1, by rw [VS.out], by go_num, by omega, by omega, rfl, by rw [VS.out]; exact hover⟩
                  · have hq : (lim - d) / 10 < x := by omega
                    go_wp2_with (go_at_call 16; refine Calls.mono H.out ?_; rintro _ w' ⟨rfl, rfl⟩)
                    go_ret2
                    refine ⟨0, false, rfl, .inr (.inr ⟨by rw [EX.out, PT.out]; exact NB.out, ?_, rfl, rfl⟩), below_drewN B0.out _⟩
                    rw [EX.out, PT.out, LM.out, ← P0.out]
                    have := VM.out
                    rw [VS.out] at this
                    omega
                · have hkp : pt ≤ (k : Int) := by have := P0.out; omega
                  have e : k = p0 := by omega
                  subst e
                  have V : Aside (0 ≤ valAt D (wl + fl) k ∧ valAt D (wl + fl) k ≤ lim) := ⟨hv0, hv⟩
                  clear hv hv0 hd0
                  cases neg with
                  | true =>
                    go_wp2_with fail
                    go_ret2
                    have hlim : limOf true = 9223372036854775808 := rfl
                    refine ⟨signed true (valAt D (wl + fl) k), true, ?_, .inr (.inl ⟨by rw [EX.out, PT.out]; exact NB.out, ?_, ?_, rfl⟩), below_drewN B0.out _⟩
                    · exact tup2 (by rw [wrap_neg _ V.out.1 (by have := V.out.2; rw [← LM.out, hlim] at this; exact this)]; rfl) rfl
                    · rw [EX.out, PT.out, ← P0.out, LM.out]; exact V.out.2
                    · rw [EX.out, PT.out, ← P0.out]
                  | false =>
                    go_wp2_with fail
                    go_ret2
                    have hlim : limOf false = 9223372036854775807 := rfl
                    refine ⟨signed false (valAt D (wl + fl) k), true, ?_, .inr (.inl ⟨by rw [EX.out, PT.out]; exact NB.out, ?_, ?_, rfl⟩), below_drewN B0.out _⟩
                    · exact tup2 (by rw [wrap_pos _ V.out.1 (by have := V.out.2; rw [← LM.out, hlim] at this; exact this)]; rfl) rfl
                    · rw [EX.out, PT.out, ← P0.out, LM.out]; exact V.out.2
                    · rw [EX.out, PT.out, ← P0.out]

end Go.Proofs.Qxb6629257a.W
