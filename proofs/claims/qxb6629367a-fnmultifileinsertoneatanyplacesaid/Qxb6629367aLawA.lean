import Derived.Test.Qxb6629367aWalksF
import Derived.Test.Qxb6629367aPlainA
namespace Go.Proofs.Qxb6629367a.W
open Go.RowKit
set_option linter.unusedVariables false
set_option maxRecDepth 100000

theorem rowLater {w w' : World} {h : Nat} {f : Nat → Value} (hr : w.rowIs h 32 6 f) (hb : Below w.heap.size w w') : w'.rowIs h 32 6 f := hr.of_block (hb.block h hr.lt)

theorem iv_new (w : World) (name : ByteArray) (t : Int) (f p : Value) : (w.alloc (.cells #[.string name, .int .i64 t, .int .i64 0, .slice none 0 0, f, p] 32)).rowIs w.heap.size 32 6 (iv name t f p) :=
  World.rowIs_alloc w #[.string name, .int .i64 t, .int .i64 0, .slice none 0 0, f, p] 32 (iv name t f p) (fun i hi => by
    match i, hi with
    | 0, _ => rfl
    | 1, _ => rfl
    | 2, _ => rfl
    | 3, _ => rfl
    | 4, _ => rfl
    | 5, _ => rfl)

theorem nil_row (w : World) (A : Nat → Int) (S : Nat → ByteArray) (P : Nat → Bool) : FRow w none 0 A S P := ⟨fun h => absurd h (Nat.lt_irrefl _)⟩

/-- All that the law has made, in a later world. -/
structure Base (name : ByteArray) (g1 g2 g3 : Nat) (i1 i2 i3 : Nat → Value) (fr pr : World → Prop) (w W : World) : Prop where
  r1 : W.rowIs g1 32 6 i1
  r2 : W.rowIs g2 32 6 i2
  r3 : W.rowIs g3 32 6 i3
  fr : fr W
  pr : pr W
  be : Below w.heap.size w W

theorem Base.later {name : ByteArray} {g1 g2 g3 : Nat} {i1 i2 i3 : Nat → Value} {fr pr : World → Prop} {w W W' : World} (h : Base name g1 g2 g3 i1 i2 i3 fr pr w W) (hf : ∀ {U U' : World}, fr U → Below U.heap.size U U' → fr U') (hp : ∀ {U U' : World}, pr U → Below U.heap.size U U' → pr U') (hb : Below W.heap.size W W') : Base name g1 g2 g3 i1 i2 i3 fr pr w W' :=
  ⟨rowLater h.r1 hb, rowLater h.r2 hb, rowLater h.r3 hb, hf h.fr hb, hp h.pr hb, below2 h.be hb⟩

/-- Two functions, one behind the other. -/
def jn {α : Type} (m : Nat) (f g : Nat → α) (i : Nat) : α := if i < m then f i else g (i - m)
theorem jn_l {α : Type} (m : Nat) (f g : Nat → α) (i : Nat) (h : i < m) : jn m f g i = f i := by unfold jn; rw [if_pos h]
theorem jn_r {α : Type} (m : Nat) (f g : Nat → α) (i : Nat) : jn m f g (m + i) = g i := by unfold jn; rw [if_neg (by omega), show m + i - m = i from by omega]

set_option maxHeartbeats 8000000 in
theorem lawA (name : ByteArray) (a b : Option Addr) (na ca nb cb : Nat) (A1 A2 : Nat → Int) (S1 S2 : Nat → ByteArray) (P1 P2 : Nat → Bool) (w : World) (R1 : FRow w a na A1 S1 P1) (R2 : FRow w b nb A2 S2 P2) :
    Calls Try.prog 3 #[.string name, .slice a na ca, .slice b nb cb] w fun e w' => e = .returned (.bool true) ∧ Below w.heap.size w w' := by
  have RR : Aside (FRow w a na A1 S1 P1 ∧ FRow w b nb A2 S2 P2) := ⟨R1, R2⟩
  clear R1 R2
  go_enter Try.func3, Try.ntmps3
  go_wp2_with fail
  refine (zz5_at name a b na ca nb cb A1 S1 P1 A2 S2 P2 w RR.out.1 RR.out.2).mono ?_
  rintro _ w' ⟨⟨r, rfl⟩, rfl⟩
  cases r with
  | false =>
    go_wp2_with fail
    go_ret
    exact ⟨rfl, Below.refl _ _⟩
  | true =>
  by_cases hsz : 1048576 < name.size
  · have hb : decide (1048576 < (name.size : Int)) = true := decide_eq_true (by omega)
    go_wp2_with fail
    go_ret
    exact ⟨rfl, Below.refl _ _⟩
  have hb : decide (1048576 < (name.size : Int)) = false := decide_eq_false (by omega)
  go_wp2_with fail
  refine (bytes_at (name.size : Int) a na ca A1 S1 P1 w (by omega) (by omega) RR.out.1).mono ?_
  rintro _ w' ⟨⟨t1, rfl, ht0, ht1⟩, rfl⟩
  clear hb
  by_cases hc1 : 1048576 < t1
  · have hb : decide (1048576 < t1) = true := decide_eq_true hc1
    clear ht1
    go_wp2_with fail
    go_ret
    exact ⟨rfl, Below.refl _ _⟩
  have hna := ht1 (by omega)
  clear ht1
  have hb : decide (1048576 < t1) = false := decide_eq_false hc1
  go_wp2_with fail
  refine (bytes_at t1 b nb cb A2 S2 P2 w (by omega) (by omega) RR.out.2).mono ?_
  rintro _ w' ⟨⟨t2, rfl, hu0, hu1⟩, rfl⟩
  clear hb
  by_cases hc2 : 1048576 < t2
  · have hb : decide (1048576 < t2) = true := decide_eq_true hc2
    clear hu1
    go_wp2_with fail
    go_ret
    exact ⟨rfl, Below.refl _ _⟩
  have hnb := hu1 (by omega)
  clear hu1
  have hb : decide (1048576 < t2) = false := decide_eq_false hc2
  obtain ⟨A, S, P, HJ⟩ : ∃ (A : Nat → Int) (S : Nat → ByteArray) (P : Nat → Bool), Aside ((∀ i, i < na → A i = A1 i ∧ S i = S1 i ∧ P i = P1 i) ∧ (∀ i, i < nb → A (na + i) = A2 i ∧ S (na + i) = S2 i ∧ P (na + i) = P2 i)) :=
    ⟨jn na A1 A2, jn na S1 S2, jn na P1 P2, fun i hi => ⟨jn_l _ _ _ _ hi, jn_l _ _ _ _ hi, jn_l _ _ _ _ hi⟩, fun i hi => ⟨jn_r _ _ _ _, jn_r _ _ _ _, jn_r _ _ _ _⟩⟩
  go_wp2_with fail
  clear hb hc1 hc2 ht0 hu0
  go_loopg [8, 9, 10] na (fun g s8 s9 s wr => ∃ (i q : Nat) (t : Int), s8 = .int .i64 t ∧ s9 = .int .i64 q ∧ s = .int .i64 i ∧ wsum A (i) = t ∧ cnt A P (i) = q ∧ i ≤ na ∧ na - i ≤ g ∧ Below w.heap.size w wr)
  case atStart => exact ⟨0, 0, 0, rfl, rfl, rfl, rfl, rfl, Nat.zero_le _, by omega, Below.refl _ _⟩
  case round =>
    obtain ⟨i, q, t, rfl, rfl, rfl, ht, hq, hi, hg, hbel⟩ := hrel
    have hqn : q ≤ i := by rw [← hq]; exact cnt_le A P _
    have Z : Aside (wsum A (i) = t ∧ cnt A P (i) = q ∧ Below w.heap.size w wr) := ⟨ht, hq, hbel⟩
    by_cases hlt : i < na
    · obtain ⟨bb, off, rfl, hbl, c1, c2, c3⟩ := RR.out.1.addr (by omega)
      have d1 := (hbel.cell (p := ⟨bb, off + i * 3, none⟩) hbl).trans (c1 i hlt)
      have d2 := (hbel.cell (p := ⟨bb, off + i * 3 + 1, none⟩) hbl).trans (c2 i hlt)
      have d3 := (hbel.cell (p := ⟨bb, off + i * 3 + 2, none⟩) hbl).trans (c3 i hlt)
      have HX := HJ.out.1 i hlt
      have HS : Aside (wsum A (i + 1) = wrap64 (wsum A (i) + A (i)) ∧ cnt A P (i + 1) = cnt A P (i) + (if (P (i) && decide (0 < A (i))) = true then 1 else 0)) := ⟨rfl, rfl⟩
      rw [HX.1, HX.2.2, Z.out.1, Z.out.2.1] at HS
      clear hbel c1 c2 c3 HX ht hq
      have hcon : ∀ W : World, Calls Try.prog 7 #[.agg #[.int .i64 (A1 i), .string (S1 i), .bool (P1 i)]] W fun e w' => e = .returned (.bool (P1 i && decide (0 < A1 i))) ∧ Below W.heap.size W w' := fun W => holds_at _ _ _ W
      generalize (P1 i && decide (0 < A1 i)) = r at hcon HS
      generalize A1 i = x at d1 HS hcon
      generalize S1 i = s at d2 hcon
      generalize P1 i = p at d3 hcon
      have H : Hid _ := hcon
      clear hcon
      cases r with
      | false =>
        go_wp2_with (go_at_call 7; refine Calls.mono (H.out _) ?_; rintro _ w2 ⟨rfl, hb2⟩; have Z2 : Aside (Below wr.heap.size wr w2) := hb2; clear hb2)
        go_roundg (na - (i + 1))
        case measure => omega
        case rel => exact ⟨i + 1, q, wrap64 (t + x), rfl, rfl, by go_num, HS.out.1, HS.out.2, by omega, by omega, below2 Z.out.2.2 Z2.out⟩
      | true =>
        go_wp2_with (go_at_call 7; refine Calls.mono (H.out _) ?_; rintro _ w2 ⟨rfl, hb2⟩; have Z2 : Aside (Below wr.heap.size wr w2) := hb2; clear hb2)
        go_roundg (na - (i + 1))
        case measure => omega
        case rel => exact ⟨i + 1, q + 1, wrap64 (t + x), rfl, by go_num, by go_num, HS.out.1, HS.out.2, by omega, by omega, below2 Z.out.2.2 Z2.out⟩
    · have e : na = i := by omega
      subst e
      have ZZ : Aside (wsum A (na) = t ∧ cnt A P (na) = q ∧ Below w.heap.size w wr) := Z.out
      clear hbel hg hi hlt ht hq Z
      go_wp2_with fail
      go_loopg [8, 9, 11] nb (fun g s8 s9 s wr => ∃ (i q : Nat) (t : Int), s8 = .int .i64 t ∧ s9 = .int .i64 q ∧ s = .int .i64 i ∧ wsum A (na + i) = t ∧ cnt A P (na + i) = q ∧ i ≤ nb ∧ nb - i ≤ g ∧ Below w.heap.size w wr)
      case atStart => exact ⟨0, q, t, rfl, rfl, rfl, ZZ.out.1, ZZ.out.2.1, Nat.zero_le _, by omega, ZZ.out.2.2⟩
      case round =>
        clear ZZ hqn t q
        obtain ⟨i, q, t, rfl, rfl, rfl, ht, hq, hi, hg, hbel⟩ := hrel
        have hqn : q ≤ na + i := by rw [← hq]; exact cnt_le A P _
        have Z : Aside (wsum A (na + i) = t ∧ cnt A P (na + i) = q ∧ Below w.heap.size w wr) := ⟨ht, hq, hbel⟩
        by_cases hlt : i < nb
        · obtain ⟨bb, off, rfl, hbl, c1, c2, c3⟩ := RR.out.2.addr (by omega)
          have d1 := (hbel.cell (p := ⟨bb, off + i * 3, none⟩) hbl).trans (c1 i hlt)
          have d2 := (hbel.cell (p := ⟨bb, off + i * 3 + 1, none⟩) hbl).trans (c2 i hlt)
          have d3 := (hbel.cell (p := ⟨bb, off + i * 3 + 2, none⟩) hbl).trans (c3 i hlt)
          have HX := HJ.out.2 i hlt
          have HS : Aside (wsum A (na + i + 1) = wrap64 (wsum A (na + i) + A (na + i)) ∧ cnt A P (na + i + 1) = cnt A P (na + i) + (if (P (na + i) && decide (0 < A (na + i))) = true then 1 else 0)) := ⟨rfl, rfl⟩
          rw [HX.1, HX.2.2, Z.out.1, Z.out.2.1] at HS
          clear hbel c1 c2 c3 HX ht hq
          have hcon : ∀ W : World, Calls Try.prog 7 #[.agg #[.int .i64 (A2 i), .string (S2 i), .bool (P2 i)]] W fun e w' => e = .returned (.bool (P2 i && decide (0 < A2 i))) ∧ Below W.heap.size W w' := fun W => holds_at _ _ _ W
          generalize (P2 i && decide (0 < A2 i)) = r at hcon HS
          generalize A2 i = x at d1 HS hcon
          generalize S2 i = s at d2 hcon
          generalize P2 i = p at d3 hcon
          have H : Hid _ := hcon
          clear hcon
          cases r with
          | false =>
            go_wp2_with (go_at_call 7; refine Calls.mono (H.out _) ?_; rintro _ w2 ⟨rfl, hb2⟩; have Z2 : Aside (Below wr.heap.size wr w2) := hb2; clear hb2)
            go_roundg (nb - (i + 1))
            case measure => omega
            case rel => exact ⟨i + 1, q, wrap64 (t + x), rfl, rfl, by go_num, HS.out.1, HS.out.2, by omega, by omega, below2 Z.out.2.2 Z2.out⟩
          | true =>
            go_wp2_with (go_at_call 7; refine Calls.mono (H.out _) ?_; rintro _ w2 ⟨rfl, hb2⟩; have Z2 : Aside (Below wr.heap.size wr w2) := hb2; clear hb2)
            go_roundg (nb - (i + 1))
            case measure => omega
            case rel => exact ⟨i + 1, q + 1, wrap64 (t + x), rfl, by go_num, by go_num, HS.out.1, HS.out.2, by omega, by omega, below2 Z.out.2.2 Z2.out⟩
        · have e : nb = i := by omega
          subst e
          have ZZ : Aside (wsum A (na + nb) = t ∧ cnt A P (na + nb) = q ∧ Below w.heap.size w wr) := Z.out
          clear hbel hg hi hlt ht hq Z
          have X0 : Aside (Below w.heap.size w wr) := ZZ.out.2.2
          have SM : Aside (wsum A (na + nb) = t ∧ cnt A P (na + nb) = q) := ⟨ZZ.out.1, ZZ.out.2.1⟩
          clear ZZ hqn
          go_wp2_with fail
          refine (join_at a none b na ca 0 0 nb cb (na + nb) A1 (fun _ => 0) A2 A S1 (fun _ => ⟨#[]⟩) S2 S P1 (fun _ => false) P2 P wr (RR.out.1.later X0.out) (nil_row _ _ _ _) (RR.out.2.later X0.out) (by omega) (by omega) HJ.out.1 (fun i hi => absurd hi (Nat.not_lt_zero _)) HJ.out.2).mono ?_
          rintro _ v1 ⟨rfl, hf, hb⟩
          have Y1 : Aside (FRow v1 (some ⟨wr.heap.size, 0, none⟩) (na + nb) A S P ∧ Below w.heap.size w v1) := ⟨hf, below2 X0.out hb⟩
          have E1 : Aside (Below wr.heap.size wr v1) := hb
          clear hf hb
          generalize wr.heap.size = f1 at Y1 ⊢
          go_wp2_with fail
          refine (multi_at name (some ⟨f1, 0, none⟩) (na + nb) (na + nb) A S P v1 (by omega) Y1.out.1).mono ?_
          rintro _ u1 ⟨pa1, pc1, rfl, hp, hb⟩
          obtain ⟨L1, HL1⟩ : ∃ L, Aside (pads A P (na + nb) 0 0 = L) := ⟨_, rfl⟩
          obtain ⟨t3, HT1⟩ : ∃ t, Aside (wsum A (na + nb) = t) := ⟨_, rfl⟩
          rw [HL1.out] at hp ⊢
          rw [HT1.out]
          have V1 : Aside (FRow u1 (some ⟨f1, 0, none⟩) (na + nb) A S P ∧ PRow u1 pa1 L1 ∧ Below v1.heap.size v1 u1 ∧ Below w.heap.size w u1) := ⟨Y1.out.1.later hb, hp, hb, below2 Y1.out.2 hb⟩
          clear hp hb
          unfold infoV
          go_upto_region 26 with fail
          obtain ⟨W1, HW1⟩ : ∃ W, Aside (u1.alloc (.cells #[.string name, .int .i64 t3, .int .i64 0, .slice none 0 0, .slice (some ⟨f1, 0, none⟩) (na + nb) (na + nb), .slice pa1 L1.length pc1] 32) = W) := ⟨_, rfl⟩
          have Q1 : Aside (W1.rowIs u1.heap.size 32 6 (iv name t3 (.slice (some ⟨f1, 0, none⟩) (na + nb) (na + nb)) (.slice pa1 L1.length pc1)) ∧ FRow W1 (some ⟨f1, 0, none⟩) (na + nb) A S P ∧ PRow W1 pa1 L1) := by
            rw [← HW1.out]
            exact ⟨iv_new _ _ _ _ _, V1.out.1.later ((Below.refl _ _).alloc (Nat.le_refl _) _), V1.out.2.1.later ((Below.refl _ _).alloc (Nat.le_refl _) _)⟩
          have X1 : Aside (Below w.heap.size w W1) := by rw [← HW1.out]; exact V1.out.2.2.2.alloc V1.out.2.2.2.size _
          have D1 : Aside (Below wr.heap.size wr W1) := by rw [← HW1.out]; exact below2 (below2 E1.out V1.out.2.2.1) ((Below.refl _ _).alloc (Nat.le_refl _) _)
          rw [HW1.out]
          generalize u1.heap.size = g1 at Q1 ⊢
          clear HW1 V1 Y1 E1
          go_wp2_with fail
          refine (join_at a none none na ca 0 0 0 0 na A1 (fun _ => 0) (fun _ => 0) A1 S1 (fun _ => ⟨#[]⟩) (fun _ => ⟨#[]⟩) S1 P1 (fun _ => false) (fun _ => false) P1 W1 (RR.out.1.later X1.out) (nil_row _ _ _ _) (nil_row _ _ _ _) (by omega) (by omega) (fun i hi => ⟨rfl, rfl, rfl⟩) (fun i hi => absurd hi (Nat.not_lt_zero _)) (fun i hi => absurd hi (Nat.not_lt_zero _))).mono ?_
          rintro _ v2 ⟨rfl, hf, hb⟩
          have Y2 : Aside (FRow v2 (some ⟨W1.heap.size, 0, none⟩) (na) A1 S1 P1 ∧ Below w.heap.size w v2) := ⟨hf, below2 X1.out hb⟩
          have E2 : Aside (Below W1.heap.size W1 v2) := hb
          clear hf hb
          generalize W1.heap.size = f2 at Y2 ⊢
          go_wp2_with fail
          refine (multi_at name (some ⟨f2, 0, none⟩) (na) (na) A1 S1 P1 v2 (by omega) Y2.out.1).mono ?_
          rintro _ u2 ⟨pa2, pc2, rfl, hp, hb⟩
          obtain ⟨L2, HL2⟩ : ∃ L, Aside (pads A1 P1 (na) 0 0 = L) := ⟨_, rfl⟩
          obtain ⟨t4, HT2⟩ : ∃ t, Aside (wsum A1 (na) = t) := ⟨_, rfl⟩
          rw [HL2.out] at hp ⊢
          rw [HT2.out]
          have V2 : Aside (FRow u2 (some ⟨f2, 0, none⟩) (na) A1 S1 P1 ∧ PRow u2 pa2 L2 ∧ Below v2.heap.size v2 u2 ∧ Below w.heap.size w u2) := ⟨Y2.out.1.later hb, hp, hb, below2 Y2.out.2 hb⟩
          clear hp hb
          unfold infoV
          go_upto_region 27 with fail
          obtain ⟨W2, HW2⟩ : ∃ W, Aside (u2.alloc (.cells #[.string name, .int .i64 t4, .int .i64 0, .slice none 0 0, .slice (some ⟨f2, 0, none⟩) (na) (na), .slice pa2 L2.length pc2] 32) = W) := ⟨_, rfl⟩
          have Q2 : Aside (W2.rowIs u2.heap.size 32 6 (iv name t4 (.slice (some ⟨f2, 0, none⟩) (na) (na)) (.slice pa2 L2.length pc2)) ∧ FRow W2 (some ⟨f2, 0, none⟩) (na) A1 S1 P1 ∧ PRow W2 pa2 L2) := by
            rw [← HW2.out]
            exact ⟨iv_new _ _ _ _ _, V2.out.1.later ((Below.refl _ _).alloc (Nat.le_refl _) _), V2.out.2.1.later ((Below.refl _ _).alloc (Nat.le_refl _) _)⟩
          have X2 : Aside (Below w.heap.size w W2) := by rw [← HW2.out]; exact V2.out.2.2.2.alloc V2.out.2.2.2.size _
          have D2 : Aside (Below W1.heap.size W1 W2) := by rw [← HW2.out]; exact below2 (below2 E2.out V2.out.2.2.1) ((Below.refl _ _).alloc (Nat.le_refl _) _)
          rw [HW2.out]
          generalize u2.heap.size = g2 at Q2 ⊢
          clear HW2 V2 Y2 E2
          go_wp2_with fail
          refine (join_at b none none nb cb 0 0 0 0 nb A2 (fun _ => 0) (fun _ => 0) A2 S2 (fun _ => ⟨#[]⟩) (fun _ => ⟨#[]⟩) S2 P2 (fun _ => false) (fun _ => false) P2 W2 (RR.out.2.later X2.out) (nil_row _ _ _ _) (nil_row _ _ _ _) (by omega) (by omega) (fun i hi => ⟨rfl, rfl, rfl⟩) (fun i hi => absurd hi (Nat.not_lt_zero _)) (fun i hi => absurd hi (Nat.not_lt_zero _))).mono ?_
          rintro _ v3 ⟨rfl, hf, hb⟩
          have Y3 : Aside (FRow v3 (some ⟨W2.heap.size, 0, none⟩) (nb) A2 S2 P2 ∧ Below w.heap.size w v3) := ⟨hf, below2 X2.out hb⟩
          have E3 : Aside (Below W2.heap.size W2 v3) := hb
          clear hf hb
          generalize W2.heap.size = f3 at Y3 ⊢
          go_wp2_with fail
          refine (multi_at name (some ⟨f3, 0, none⟩) (nb) (nb) A2 S2 P2 v3 (by omega) Y3.out.1).mono ?_
          rintro _ u3 ⟨pa3, pc3, rfl, hp, hb⟩
          obtain ⟨L3, HL3⟩ : ∃ L, Aside (pads A2 P2 (nb) 0 0 = L) := ⟨_, rfl⟩
          obtain ⟨t5, HT3⟩ : ∃ t, Aside (wsum A2 (nb) = t) := ⟨_, rfl⟩
          rw [HL3.out] at hp ⊢
          rw [HT3.out]
          have V3 : Aside (FRow u3 (some ⟨f3, 0, none⟩) (nb) A2 S2 P2 ∧ PRow u3 pa3 L3 ∧ Below v3.heap.size v3 u3 ∧ Below w.heap.size w u3) := ⟨Y3.out.1.later hb, hp, hb, below2 Y3.out.2 hb⟩
          clear hp hb
          unfold infoV
          go_upto_region 28 with fail
          obtain ⟨W3, HW3⟩ : ∃ W, Aside (u3.alloc (.cells #[.string name, .int .i64 t5, .int .i64 0, .slice none 0 0, .slice (some ⟨f3, 0, none⟩) (nb) (nb), .slice pa3 L3.length pc3] 32) = W) := ⟨_, rfl⟩
          have Q3 : Aside (W3.rowIs u3.heap.size 32 6 (iv name t5 (.slice (some ⟨f3, 0, none⟩) (nb) (nb)) (.slice pa3 L3.length pc3)) ∧ FRow W3 (some ⟨f3, 0, none⟩) (nb) A2 S2 P2 ∧ PRow W3 pa3 L3) := by
            rw [← HW3.out]
            exact ⟨iv_new _ _ _ _ _, V3.out.1.later ((Below.refl _ _).alloc (Nat.le_refl _) _), V3.out.2.1.later ((Below.refl _ _).alloc (Nat.le_refl _) _)⟩
          have X3 : Aside (Below w.heap.size w W3) := by rw [← HW3.out]; exact V3.out.2.2.2.alloc V3.out.2.2.2.size _
          have D3 : Aside (Below W2.heap.size W2 W3) := by rw [← HW3.out]; exact below2 (below2 E3.out V3.out.2.2.1) ((Below.refl _ _).alloc (Nat.le_refl _) _)
          rw [HW3.out]
          generalize u3.heap.size = g3 at Q3 ⊢
          clear HW3 V3 Y3 E3
          have BS : Aside (Base name g1 g2 g3 (iv name t3 (.slice (some ⟨f1, 0, none⟩) (na + nb) (na + nb)) (.slice pa1 L1.length pc1)) (iv name t4 (.slice (some ⟨f2, 0, none⟩) na na) (.slice pa2 L2.length pc2)) (iv name t5 (.slice (some ⟨f3, 0, none⟩) nb nb) (.slice pa3 L3.length pc3)) (fun U => FRow U (some ⟨f1, 0, none⟩) (na + nb) A S P) (fun U => PRow U pa1 L1 ∧ PRow U pa2 L2 ∧ PRow U pa3 L3) w W3) := ⟨rowLater (rowLater Q1.out.1 D2.out) D3.out, rowLater Q2.out.1 D3.out, Q3.out.1, (Q1.out.2.1.later D2.out).later D3.out, ⟨(Q1.out.2.2.later D2.out).later D3.out, Q2.out.2.2.later D3.out, Q3.out.2.2⟩, X3.out⟩
          have PL : Aside (L1 = L2 ++ L3.map (shift t4) ∧ L1.length = q ∧ t3 = t ∧ t = IntKind.i64.wrap (t4 + t5) ∧ L1.length ≤ 65536) := by
            have j1 := pads_join A A1 A2 P P1 P2 na nb (fun i hi => ⟨(HJ.out.1 i hi).1, (HJ.out.1 i hi).2.2⟩) (fun i hi => ⟨(HJ.out.2 i hi).1, (HJ.out.2 i hi).2.2⟩)
            have j2 := wsum_join A A1 A2 na nb (fun i hi => (HJ.out.1 i hi).1) (fun i hi => (HJ.out.2 i hi).1)
            have j3 := pads_cnt A P (na + nb)
            rw [HL1.out, HL2.out, HL3.out, HT2.out] at j1
            rw [HL1.out] at j3
            rw [HT2.out, HT3.out] at j2
            have j4 := cnt_le A P (na + nb)
            refine ⟨j1, by rw [j3]; exact SM.out.2, by rw [← HT1.out]; exact SM.out.1, ?_, by omega⟩
            rw [IntKind.wrap_i64, ← SM.out.1, j2, wrap64]
          clear Q1 Q2 Q3 D1 D2 D3 X1 X2 X3 HT1 HT2 HT3 HL1 HL2 HL3 SM X0
          obtain ⟨hj1, hj2, rfl, rfl, hj5⟩ := PL.out
          obtain ⟨m2, HM2⟩ : ∃ m, Aside (L2.length = m) := ⟨_, rfl⟩
          obtain ⟨m3, HM3⟩ : ∃ m, Aside (L3.length = m) := ⟨_, rfl⟩
          have hq23 : q = m2 + m3 := by rw [← hj2, hj1, ← HM2.out, ← HM3.out]; simp
          have HJ1 : Aside (L1 = L2 ++ L3.map (shift t4) ∧ L1.length = q) := ⟨hj1, hj2⟩
          rw [hj2] at hj5
          rw [hj2, HM2.out, HM3.out] at BS
          rw [hj2, HM2.out, HM3.out]
          clear PL hj1 hj2
          subst hq23
          have LF : ∀ {U U2 : World}, FRow U (some ⟨f1, 0, none⟩) (na + nb) A S P → Below U.heap.size U U2 → FRow U2 (some ⟨f1, 0, none⟩) (na + nb) A S P := fun h k => h.later k
          have LFH : Aside (∀ {U U2 : World}, FRow U (some ⟨f1, 0, none⟩) (na + nb) A S P → Below U.heap.size U U2 → FRow U2 (some ⟨f1, 0, none⟩) (na + nb) A S P) := LF
          have LPH : Aside (∀ {U U2 : World}, (PRow U pa1 L1 ∧ PRow U pa2 L2 ∧ PRow U pa3 L3) → Below U.heap.size U U2 → (PRow U2 pa1 L1 ∧ PRow U2 pa2 L2 ∧ PRow U2 pa3 L3)) := fun h k => ⟨h.1.later k, h.2.1.later k, h.2.2.later k⟩
          clear LF
          have zg10 : W3.cell? ⟨g1, 0, none⟩ = some (.string name) := BS.out.r1.cell (by omega)
          have zg11 : W3.cell? ⟨g1, 1, none⟩ = some (.int .i64 (IntKind.i64.wrap (t4 + t5))) := BS.out.r1.cell (by omega)
          have zg12 : W3.cell? ⟨g1, 2, none⟩ = some (.int .i64 0) := BS.out.r1.cell (by omega)
          have zg13 : W3.cell? ⟨g1, 3, none⟩ = some (.slice none 0 0) := BS.out.r1.cell (by omega)
          have zg14 : W3.cell? ⟨g1, 4, none⟩ = some (.slice (some ⟨f1, 0, none⟩) (na + nb) (na + nb)) := BS.out.r1.cell (by omega)
          have zg15 : W3.cell? ⟨g1, 5, none⟩ = some (.slice pa1 (m2 + m3) pc1) := BS.out.r1.cell (by omega)
          have zg21 : W3.cell? ⟨g2, 1, none⟩ = some (.int .i64 t4) := BS.out.r2.cell (by omega)
          have zg31 : W3.cell? ⟨g3, 1, none⟩ = some (.int .i64 t5) := BS.out.r3.cell (by omega)
          go_wp2_with fail
          refine (files_at name _ _ _ W3).mono ?_
          rintro _ V1 ⟨rfl, hb⟩
          have B1 : Aside (Base name g1 g2 g3 (iv name (IntKind.i64.wrap (t4 + t5)) (.slice (some ⟨f1, 0, none⟩) (na + nb) (na + nb)) (.slice pa1 (m2 + m3) pc1)) (iv name t4 (.slice (some ⟨f2, 0, none⟩) na na) (.slice pa2 m2 pc2)) (iv name t5 (.slice (some ⟨f3, 0, none⟩) nb nb) (.slice pa3 m3 pc3)) (fun U => FRow U (some ⟨f1, 0, none⟩) (na + nb) A S P) (fun U => PRow U pa1 L1 ∧ PRow U pa2 L2 ∧ PRow U pa3 L3) w V1) := BS.out.later LFH.out LPH.out hb
          clear hb
          clear zg10 zg11 zg12 zg13 zg14 zg15
          clear zg21 zg31
          go_wp2_with fail
          refine (same_at (some ⟨f1, 0, none⟩) a none b (na + nb) na ca 0 0 nb cb (na + nb) A1 (fun _ => 0) A2 A S1 (fun _ => ⟨#[]⟩) S2 S P1 (fun _ => false) P2 P V1 B1.out.fr (RR.out.1.later B1.out.be) (nil_row _ _ _ _) (RR.out.2.later B1.out.be) (by omega) (by omega) HJ.out.1 (fun i hi => absurd hi (Nat.not_lt_zero _)) HJ.out.2).mono ?_
          rintro _ V2 ⟨rfl, hb⟩
          have B2 : Aside (Base name g1 g2 g3 (iv name (IntKind.i64.wrap (t4 + t5)) (.slice (some ⟨f1, 0, none⟩) (na + nb) (na + nb)) (.slice pa1 (m2 + m3) pc1)) (iv name t4 (.slice (some ⟨f2, 0, none⟩) na na) (.slice pa2 m2 pc2)) (iv name t5 (.slice (some ⟨f3, 0, none⟩) nb nb) (.slice pa3 m3 pc3)) (fun U => FRow U (some ⟨f1, 0, none⟩) (na + nb) A S P) (fun U => PRow U pa1 L1 ∧ PRow U pa2 L2 ∧ PRow U pa3 L3) w V2) := B1.out.later LFH.out LPH.out hb
          clear hb
          have zg10 : V2.cell? ⟨g1, 0, none⟩ = some (.string name) := B2.out.r1.cell (by omega)
          have zg11 : V2.cell? ⟨g1, 1, none⟩ = some (.int .i64 (IntKind.i64.wrap (t4 + t5))) := B2.out.r1.cell (by omega)
          have zg12 : V2.cell? ⟨g1, 2, none⟩ = some (.int .i64 0) := B2.out.r1.cell (by omega)
          have zg13 : V2.cell? ⟨g1, 3, none⟩ = some (.slice none 0 0) := B2.out.r1.cell (by omega)
          have zg14 : V2.cell? ⟨g1, 4, none⟩ = some (.slice (some ⟨f1, 0, none⟩) (na + nb) (na + nb)) := B2.out.r1.cell (by omega)
          have zg15 : V2.cell? ⟨g1, 5, none⟩ = some (.slice pa1 (m2 + m3) pc1) := B2.out.r1.cell (by omega)
          go_wp2_with fail
          refine (padLen_at name _ _ _ _ _ V2).mono ?_
          rintro _ V3 ⟨rfl, hb⟩
          have B3 : Aside (Base name g1 g2 g3 (iv name (IntKind.i64.wrap (t4 + t5)) (.slice (some ⟨f1, 0, none⟩) (na + nb) (na + nb)) (.slice pa1 (m2 + m3) pc1)) (iv name t4 (.slice (some ⟨f2, 0, none⟩) na na) (.slice pa2 m2 pc2)) (iv name t5 (.slice (some ⟨f3, 0, none⟩) nb nb) (.slice pa3 m3 pc3)) (fun U => FRow U (some ⟨f1, 0, none⟩) (na + nb) A S P) (fun U => PRow U pa1 L1 ∧ PRow U pa2 L2 ∧ PRow U pa3 L3) w V3) := B2.out.later LFH.out LPH.out hb
          clear hb
          clear zg10 zg11 zg12 zg13 zg14 zg15
          have zg20 : V3.cell? ⟨g2, 0, none⟩ = some (.string name) := B3.out.r2.cell (by omega)
          have zg21 : V3.cell? ⟨g2, 1, none⟩ = some (.int .i64 (t4)) := B3.out.r2.cell (by omega)
          have zg22 : V3.cell? ⟨g2, 2, none⟩ = some (.int .i64 0) := B3.out.r2.cell (by omega)
          have zg23 : V3.cell? ⟨g2, 3, none⟩ = some (.slice none 0 0) := B3.out.r2.cell (by omega)
          have zg24 : V3.cell? ⟨g2, 4, none⟩ = some (.slice (some ⟨f2, 0, none⟩) (na) (na)) := B3.out.r2.cell (by omega)
          have zg25 : V3.cell? ⟨g2, 5, none⟩ = some (.slice pa2 m2 pc2) := B3.out.r2.cell (by omega)
          go_wp2_with fail
          refine (padLen_at name _ _ _ _ _ V3).mono ?_
          rintro _ V4 ⟨rfl, hb⟩
          have B4 : Aside (Base name g1 g2 g3 (iv name (IntKind.i64.wrap (t4 + t5)) (.slice (some ⟨f1, 0, none⟩) (na + nb) (na + nb)) (.slice pa1 (m2 + m3) pc1)) (iv name t4 (.slice (some ⟨f2, 0, none⟩) na na) (.slice pa2 m2 pc2)) (iv name t5 (.slice (some ⟨f3, 0, none⟩) nb nb) (.slice pa3 m3 pc3)) (fun U => FRow U (some ⟨f1, 0, none⟩) (na + nb) A S P) (fun U => PRow U pa1 L1 ∧ PRow U pa2 L2 ∧ PRow U pa3 L3) w V4) := B3.out.later LFH.out LPH.out hb
          clear hb
          clear zg20 zg21 zg22 zg23 zg24 zg25
          have zg30 : V4.cell? ⟨g3, 0, none⟩ = some (.string name) := B4.out.r3.cell (by omega)
          have zg31 : V4.cell? ⟨g3, 1, none⟩ = some (.int .i64 (t5)) := B4.out.r3.cell (by omega)
          have zg32 : V4.cell? ⟨g3, 2, none⟩ = some (.int .i64 0) := B4.out.r3.cell (by omega)
          have zg33 : V4.cell? ⟨g3, 3, none⟩ = some (.slice none 0 0) := B4.out.r3.cell (by omega)
          have zg34 : V4.cell? ⟨g3, 4, none⟩ = some (.slice (some ⟨f3, 0, none⟩) (nb) (nb)) := B4.out.r3.cell (by omega)
          have zg35 : V4.cell? ⟨g3, 5, none⟩ = some (.slice pa3 m3 pc3) := B4.out.r3.cell (by omega)
          go_wp2_with fail
          refine (padLen_at name _ _ _ _ _ V4).mono ?_
          rintro _ V5 ⟨rfl, hb⟩
          have B5 : Aside (Base name g1 g2 g3 (iv name (IntKind.i64.wrap (t4 + t5)) (.slice (some ⟨f1, 0, none⟩) (na + nb) (na + nb)) (.slice pa1 (m2 + m3) pc1)) (iv name t4 (.slice (some ⟨f2, 0, none⟩) na na) (.slice pa2 m2 pc2)) (iv name t5 (.slice (some ⟨f3, 0, none⟩) nb nb) (.slice pa3 m3 pc3)) (fun U => FRow U (some ⟨f1, 0, none⟩) (na + nb) A S P) (fun U => PRow U pa1 L1 ∧ PRow U pa2 L2 ∧ PRow U pa3 L3) w V5) := B4.out.later LFH.out LPH.out hb
          clear hb
          clear zg30 zg31 zg32 zg33 zg34 zg35
          go_wp2_with fail
          go_loopg [18, 19, 20, 21, 22] m2 (fun g s18 s19 s20 s21 s22 wr => ∃ k : Nat, s18 = .int .i64 k ∧ k ≤ m2 ∧ m2 - k ≤ g ∧ Base name g1 g2 g3 (iv name (IntKind.i64.wrap (t4 + t5)) (.slice (some ⟨f1, 0, none⟩) (na + nb) (na + nb)) (.slice pa1 (m2 + m3) pc1)) (iv name t4 (.slice (some ⟨f2, 0, none⟩) na na) (.slice pa2 m2 pc2)) (iv name t5 (.slice (some ⟨f3, 0, none⟩) nb nb) (.slice pa3 m3 pc3)) (fun U => FRow U (some ⟨f1, 0, none⟩) (na + nb) A S P) (fun U => PRow U pa1 L1 ∧ PRow U pa2 L2 ∧ PRow U pa3 L3) w wr)
          case atStart => exact ⟨0, rfl, Nat.zero_le _, by omega, B5.out⟩
          case round =>
            obtain ⟨k, rfl, hk, hg, hbase⟩ := hrel
            have BB : Aside (Base name g1 g2 g3 (iv name (IntKind.i64.wrap (t4 + t5)) (.slice (some ⟨f1, 0, none⟩) (na + nb) (na + nb)) (.slice pa1 (m2 + m3) pc1)) (iv name t4 (.slice (some ⟨f2, 0, none⟩) na na) (.slice pa2 m2 pc2)) (iv name t5 (.slice (some ⟨f3, 0, none⟩) nb nb) (.slice pa3 m3 pc3)) (fun U => FRow U (some ⟨f1, 0, none⟩) (na + nb) A S P) (fun U => PRow U pa1 L1 ∧ PRow U pa2 L2 ∧ PRow U pa3 L3) w wr) := hbase
            clear hbase
            by_cases hlt : k < m2
            · obtain ⟨p1, rfl, hp1, hc1⟩ := BB.out.pr.1.addr (by rw [HJ1.out.2]; omega)
              obtain ⟨p2, rfl, hp2, hc2⟩ := BB.out.pr.2.1.addr (by rw [HM2.out]; omega)
              have e1 := hc1 k (by rw [HJ1.out.2]; omega)
              have e2 := hc2 k (by rw [HM2.out]; omega)
              have ee : L1.getD k (0, 0) = L2.getD k (0, 0) := by rw [HJ1.out.1]; simp only [List.getD]; rw [List.getElem?_append_left (by rw [HM2.out]; exact hlt)]
              rw [ee] at e1
              clear ee hc1 hc2
              generalize (L2.getD k (0, 0)).1 = x at e1 e2
              generalize (L2.getD k (0, 0)).2 = y at e1 e2
              have EE : Aside ((wr.cell? ⟨p1, k * 2, none⟩ = some (.int .i64 x) ∧ wr.cell? ⟨p1, k * 2 + 1, none⟩ = some (.int .i64 y)) ∧ (wr.cell? ⟨p2, k * 2, none⟩ = some (.int .i64 x) ∧ wr.cell? ⟨p2, k * 2 + 1, none⟩ = some (.int .i64 y))) := ⟨e1, e2⟩
              clear e1 e2
              have zg10 : wr.cell? ⟨g1, 0, none⟩ = some (.string name) := BB.out.r1.cell (by omega)
              have zg11 : wr.cell? ⟨g1, 1, none⟩ = some (.int .i64 (IntKind.i64.wrap (t4 + t5))) := BB.out.r1.cell (by omega)
              have zg12 : wr.cell? ⟨g1, 2, none⟩ = some (.int .i64 0) := BB.out.r1.cell (by omega)
              have zg13 : wr.cell? ⟨g1, 3, none⟩ = some (.slice none 0 0) := BB.out.r1.cell (by omega)
              have zg14 : wr.cell? ⟨g1, 4, none⟩ = some (.slice (some ⟨f1, 0, none⟩) (na + nb) (na + nb)) := BB.out.r1.cell (by omega)
              have zg15 : wr.cell? ⟨g1, 5, none⟩ = some (.slice (some ⟨p1, 0, none⟩) (m2 + m3) pc1) := BB.out.r1.cell (by omega)
              go_wp2_with fail
              refine (padAt_at name _ _ p1 (m2 + m3) pc1 k x y wr (by omega) EE.out.1.1 EE.out.1.2).mono ?_
              rintro _ w2 ⟨rfl, hb⟩
              have BB2 : Aside (Base name g1 g2 g3 (iv name (IntKind.i64.wrap (t4 + t5)) (.slice (some ⟨f1, 0, none⟩) (na + nb) (na + nb)) (.slice (some ⟨p1, 0, none⟩) (m2 + m3) pc1)) (iv name t4 (.slice (some ⟨f2, 0, none⟩) na na) (.slice (some ⟨p2, 0, none⟩) m2 pc2)) (iv name t5 (.slice (some ⟨f3, 0, none⟩) nb nb) (.slice pa3 m3 pc3)) (fun U => FRow U (some ⟨f1, 0, none⟩) (na + nb) A S P) (fun U => PRow U (some ⟨p1, 0, none⟩) L1 ∧ PRow U (some ⟨p2, 0, none⟩) L2 ∧ PRow U pa3 L3) w w2) := BB.out.later LFH.out LPH.out hb
              have EE2 : Aside (w2.cell? ⟨p2, k * 2, none⟩ = some (.int .i64 x) ∧ w2.cell? ⟨p2, k * 2 + 1, none⟩ = some (.int .i64 y)) := ⟨cell_later hb EE.out.2.1, cell_later hb EE.out.2.2⟩
              clear hb
              clear zg10 zg11 zg12 zg13 zg14 zg15
              have zg20 : w2.cell? ⟨g2, 0, none⟩ = some (.string name) := BB2.out.r2.cell (by omega)
              have zg21 : w2.cell? ⟨g2, 1, none⟩ = some (.int .i64 (t4)) := BB2.out.r2.cell (by omega)
              have zg22 : w2.cell? ⟨g2, 2, none⟩ = some (.int .i64 0) := BB2.out.r2.cell (by omega)
              have zg23 : w2.cell? ⟨g2, 3, none⟩ = some (.slice none 0 0) := BB2.out.r2.cell (by omega)
              have zg24 : w2.cell? ⟨g2, 4, none⟩ = some (.slice (some ⟨f2, 0, none⟩) (na) (na)) := BB2.out.r2.cell (by omega)
              have zg25 : w2.cell? ⟨g2, 5, none⟩ = some (.slice (some ⟨p2, 0, none⟩) m2 pc2) := BB2.out.r2.cell (by omega)
              go_wp2_with fail
              refine (padAt_at name _ _ p2 m2 pc2 k x y w2 (by omega) EE2.out.1 EE2.out.2).mono ?_
              rintro _ w3 ⟨rfl, hb⟩
              have BB3 : Aside (Base name g1 g2 g3 (iv name (IntKind.i64.wrap (t4 + t5)) (.slice (some ⟨f1, 0, none⟩) (na + nb) (na + nb)) (.slice (some ⟨p1, 0, none⟩) (m2 + m3) pc1)) (iv name t4 (.slice (some ⟨f2, 0, none⟩) na na) (.slice (some ⟨p2, 0, none⟩) m2 pc2)) (iv name t5 (.slice (some ⟨f3, 0, none⟩) nb nb) (.slice pa3 m3 pc3)) (fun U => FRow U (some ⟨f1, 0, none⟩) (na + nb) A S P) (fun U => PRow U (some ⟨p1, 0, none⟩) L1 ∧ PRow U (some ⟨p2, 0, none⟩) L2 ∧ PRow U pa3 L3) w w3) := BB2.out.later LFH.out LPH.out hb
              clear hb
              clear zg20 zg21 zg22 zg23 zg24 zg25
              go_wp2_with fail
              go_roundg (m2 - (k + 1))
              case measure => omega
              case rel => exact ⟨k + 1, by go_num, by omega, by omega, BB3.out⟩
            · have e : m2 = k := by omega
              subst e
              clear hk hlt hg
              go_wp2_with fail
              go_loopg [23, 24, 25, 26, 27] m3 (fun g s23 s24 s25 s26 s27 wr => ∃ k : Nat, s23 = .int .i64 k ∧ k ≤ m3 ∧ m3 - k ≤ g ∧ Base name g1 g2 g3 (iv name (IntKind.i64.wrap (t4 + t5)) (.slice (some ⟨f1, 0, none⟩) (na + nb) (na + nb)) (.slice pa1 (m2 + m3) pc1)) (iv name t4 (.slice (some ⟨f2, 0, none⟩) na na) (.slice pa2 m2 pc2)) (iv name t5 (.slice (some ⟨f3, 0, none⟩) nb nb) (.slice pa3 m3 pc3)) (fun U => FRow U (some ⟨f1, 0, none⟩) (na + nb) A S P) (fun U => PRow U pa1 L1 ∧ PRow U pa2 L2 ∧ PRow U pa3 L3) w wr)
              case atStart => exact ⟨0, rfl, Nat.zero_le _, by omega, BB.out⟩
              case round =>
                clear BB
                obtain ⟨k, rfl, hk, hg, hbase⟩ := hrel
                have BB : Aside (Base name g1 g2 g3 (iv name (IntKind.i64.wrap (t4 + t5)) (.slice (some ⟨f1, 0, none⟩) (na + nb) (na + nb)) (.slice pa1 (m2 + m3) pc1)) (iv name t4 (.slice (some ⟨f2, 0, none⟩) na na) (.slice pa2 m2 pc2)) (iv name t5 (.slice (some ⟨f3, 0, none⟩) nb nb) (.slice pa3 m3 pc3)) (fun U => FRow U (some ⟨f1, 0, none⟩) (na + nb) A S P) (fun U => PRow U pa1 L1 ∧ PRow U pa2 L2 ∧ PRow U pa3 L3) w wr) := hbase
                clear hbase
                by_cases hlt : k < m3
                · obtain ⟨p1, rfl, hp1, hc1⟩ := BB.out.pr.1.addr (by rw [HJ1.out.2]; omega)
                  obtain ⟨p3, rfl, hp3, hc3⟩ := BB.out.pr.2.2.addr (by rw [HM3.out]; omega)
                  have e1 := hc1 (m2 + k) (by rw [HJ1.out.2]; omega)
                  have e3 := hc3 k (by rw [HM3.out]; omega)
                  have ee : L1.getD (m2 + k) (0, 0) = (IntKind.i64.wrap ((L3.getD k (0, 0)).1 + t4), IntKind.i64.wrap ((L3.getD k (0, 0)).2 + t4)) := by
                    rw [HJ1.out.1]; simp only [List.getD]; rw [List.getElem?_append_right (by rw [HM2.out]; omega), HM2.out, show m2 + k - m2 = k from by omega, List.getElem?_map, List.getElem?_eq_getElem (by rw [HM3.out]; exact hlt)]
                    simp only [Option.map_some, Option.getD_some, IntKind.wrap_i64, shift, wrap64]
                  rw [ee] at e1
                  clear ee hc1 hc3
                  generalize (L3.getD k (0, 0)).1 = x at e1 e3
                  generalize (L3.getD k (0, 0)).2 = y at e1 e3
                  have EE : Aside ((wr.cell? ⟨p1, (m2 + k) * 2, none⟩ = some (.int .i64 (IntKind.i64.wrap (x + t4))) ∧ wr.cell? ⟨p1, (m2 + k) * 2 + 1, none⟩ = some (.int .i64 (IntKind.i64.wrap (y + t4)))) ∧ (wr.cell? ⟨p3, k * 2, none⟩ = some (.int .i64 x) ∧ wr.cell? ⟨p3, k * 2 + 1, none⟩ = some (.int .i64 y))) := ⟨e1, e3⟩
                  clear e1 e3
                  have zg10 : wr.cell? ⟨g1, 0, none⟩ = some (.string name) := BB.out.r1.cell (by omega)
                  have zg11 : wr.cell? ⟨g1, 1, none⟩ = some (.int .i64 (IntKind.i64.wrap (t4 + t5))) := BB.out.r1.cell (by omega)
                  have zg12 : wr.cell? ⟨g1, 2, none⟩ = some (.int .i64 0) := BB.out.r1.cell (by omega)
                  have zg13 : wr.cell? ⟨g1, 3, none⟩ = some (.slice none 0 0) := BB.out.r1.cell (by omega)
                  have zg14 : wr.cell? ⟨g1, 4, none⟩ = some (.slice (some ⟨f1, 0, none⟩) (na + nb) (na + nb)) := BB.out.r1.cell (by omega)
                  have zg15 : wr.cell? ⟨g1, 5, none⟩ = some (.slice (some ⟨p1, 0, none⟩) (m2 + m3) pc1) := BB.out.r1.cell (by omega)
                  go_wp2_with fail
                  have con := padAt_at name (wrap64 (t4 + t5)) (.slice (some ⟨f1, 0, none⟩) (na + nb) (na + nb)) p1 (m2 + m3) pc1 (m2 + k) (IntKind.i64.wrap (x + t4)) (IntKind.i64.wrap (y + t4)) wr (by omega) EE.out.1.1 EE.out.1.2
                  rw [Int.natCast_add] at con
                  refine con.mono ?_
                  clear con
                  rintro _ w2 ⟨rfl, hb⟩
                  have BB2 : Aside (Base name g1 g2 g3 (iv name (IntKind.i64.wrap (t4 + t5)) (.slice (some ⟨f1, 0, none⟩) (na + nb) (na + nb)) (.slice (some ⟨p1, 0, none⟩) (m2 + m3) pc1)) (iv name t4 (.slice (some ⟨f2, 0, none⟩) na na) (.slice pa2 m2 pc2)) (iv name t5 (.slice (some ⟨f3, 0, none⟩) nb nb) (.slice (some ⟨p3, 0, none⟩) m3 pc3)) (fun U => FRow U (some ⟨f1, 0, none⟩) (na + nb) A S P) (fun U => PRow U (some ⟨p1, 0, none⟩) L1 ∧ PRow U pa2 L2 ∧ PRow U (some ⟨p3, 0, none⟩) L3) w w2) := BB.out.later LFH.out LPH.out hb
                  have EE2 : Aside (w2.cell? ⟨p3, k * 2, none⟩ = some (.int .i64 x) ∧ w2.cell? ⟨p3, k * 2 + 1, none⟩ = some (.int .i64 y)) := ⟨cell_later hb EE.out.2.1, cell_later hb EE.out.2.2⟩
                  clear hb
                  clear zg10 zg11 zg12 zg13 zg14 zg15
                  have zg30 : w2.cell? ⟨g3, 0, none⟩ = some (.string name) := BB2.out.r3.cell (by omega)
                  have zg31 : w2.cell? ⟨g3, 1, none⟩ = some (.int .i64 (t5)) := BB2.out.r3.cell (by omega)
                  have zg32 : w2.cell? ⟨g3, 2, none⟩ = some (.int .i64 0) := BB2.out.r3.cell (by omega)
                  have zg33 : w2.cell? ⟨g3, 3, none⟩ = some (.slice none 0 0) := BB2.out.r3.cell (by omega)
                  have zg34 : w2.cell? ⟨g3, 4, none⟩ = some (.slice (some ⟨f3, 0, none⟩) (nb) (nb)) := BB2.out.r3.cell (by omega)
                  have zg35 : w2.cell? ⟨g3, 5, none⟩ = some (.slice (some ⟨p3, 0, none⟩) m3 pc3) := BB2.out.r3.cell (by omega)
                  go_wp2_with fail
                  refine (padAt_at name _ _ p3 m3 pc3 k x y w2 (by omega) EE2.out.1 EE2.out.2).mono ?_
                  rintro _ w3 ⟨rfl, hb⟩
                  have BB3 : Aside (Base name g1 g2 g3 (iv name (IntKind.i64.wrap (t4 + t5)) (.slice (some ⟨f1, 0, none⟩) (na + nb) (na + nb)) (.slice (some ⟨p1, 0, none⟩) (m2 + m3) pc1)) (iv name t4 (.slice (some ⟨f2, 0, none⟩) na na) (.slice pa2 m2 pc2)) (iv name t5 (.slice (some ⟨f3, 0, none⟩) nb nb) (.slice (some ⟨p3, 0, none⟩) m3 pc3)) (fun U => FRow U (some ⟨f1, 0, none⟩) (na + nb) A S P) (fun U => PRow U (some ⟨p1, 0, none⟩) L1 ∧ PRow U pa2 L2 ∧ PRow U (some ⟨p3, 0, none⟩) L3) w w3) := BB2.out.later LFH.out LPH.out hb
                  clear hb
                  clear zg30 zg31 zg32 zg33 zg34 zg35
                  have zg21 : w3.cell? ⟨g2, 1, none⟩ = some (.int .i64 t4) := BB3.out.r2.cell (by omega)
                  go_wp2_with fail
                  go_roundg (m3 - (k + 1))
                  case measure => omega
                  case rel => exact ⟨k + 1, by go_num, by omega, by omega, BB3.out⟩
                · have e : m3 = k := by omega
                  subst e
                  go_wp2_with fail
                  go_ret
                  exact ⟨rfl, BB.out.be⟩


end Go.Proofs.Qxb6629367a.W
