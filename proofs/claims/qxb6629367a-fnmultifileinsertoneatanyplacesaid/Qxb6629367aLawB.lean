import Derived.Test.Qxb6629367aWalksG
import Derived.Test.Qxb6629367aPlainB
import Derived.Test.Qxb6629367aLawA
namespace Go.Proofs.Qxb6629367a.W
open Go.RowKit
set_option linter.unusedVariables false
set_option maxRecDepth 100000

theorem box_new (w : World) (le : Int) (se : ByteArray) (pe : Bool) : FRow (w.alloc (.cells #[.int .i64 le, .string se, .bool pe] 26)) (some ⟨w.heap.size, 0, none⟩) 1 (fun _ => le) (fun _ => se) (fun _ => pe) :=
  ⟨fun _ => ⟨w.heap.size, 0, rfl, by simp, fun i hi => by
    obtain rfl : i = 0 := by omega
    simp, fun i hi => by
    obtain rfl : i = 0 := by omega
    simp, fun i hi => by
    obtain rfl : i = 0 := by omega
    simp⟩⟩

theorem box_cells {w : World} {h : Nat} {le : Int} {se : ByteArray} {pe : Bool} (R : FRow w (some ⟨h, 0, none⟩) 1 (fun _ => le) (fun _ => se) (fun _ => pe)) : w.cell? ⟨h, 0, none⟩ = some (.int .i64 le) ∧ w.cell? ⟨h, 1, none⟩ = some (.string se) ∧ w.cell? ⟨h, 2, none⟩ = some (.bool pe) := by
  obtain ⟨b, off, e, _, c1, c2, c3⟩ := R.addr (by omega)
  cases e
  exact ⟨c1 0 (by omega), c2 0 (by omega), c3 0 (by omega)⟩

/-- Three functions, one behind the other; the second has one place. -/
def jn3 {α : Type} (m : Nat) (f : Nat → α) (e : α) (g : Nat → α) (i : Nat) : α := if i < m then f i else if i = m then e else g (i - m - 1)
theorem jn3_l {α : Type} (m : Nat) (f g : Nat → α) (e : α) (i : Nat) (h : i < m) : jn3 m f e g i = f i := by unfold jn3; rw [if_pos h]
theorem jn3_m {α : Type} (m : Nat) (f g : Nat → α) (e : α) : jn3 m f e g m = e := by unfold jn3; rw [if_neg (by omega), if_pos rfl]
theorem jn3_r {α : Type} (m : Nat) (f g : Nat → α) (e : α) (i : Nat) : jn3 m f e g (m + 1 + i) = g i := by unfold jn3; rw [if_neg (by omega), if_neg (by omega), show m + 1 + i - m - 1 = i from by omega]

set_option maxHeartbeats 16000000 in
theorem lawB (name : ByteArray) (a b : Option Addr) (na ca nb cb : Nat) (le : Int) (se : ByteArray) (pe : Bool) (A1 A2 : Nat → Int) (S1 S2 : Nat → ByteArray) (P1 P2 : Nat → Bool) (w : World) (R1 : FRow w a na A1 S1 P1) (R2 : FRow w b nb A2 S2 P2) :
    Calls Try.prog 4 #[.string name, .slice a na ca, .agg #[.int .i64 le, .string se, .bool pe], .slice b nb cb] w fun e w' => e = .returned (.bool true) ∧ Below w.heap.size w w' := by
  have RR : Aside (FRow w a na A1 S1 P1 ∧ FRow w b nb A2 S2 P2) := ⟨R1, R2⟩
  clear R1 R2
  go_enter Try.func4, Try.ntmps4
  go_upto_region 1 with fail
  obtain ⟨W0, HW0⟩ : ∃ W, Aside (w.alloc (.cells #[.int .i64 le, .string se, .bool pe] 26) = W) := ⟨_, rfl⟩
  have K0 : Aside (Below w.heap.size w W0) := by
    rw [← HW0.out]
    exact ((Below.refl _ _).alloc (Nat.le_refl _) _)
  have F0 : Aside (FRow W0 (some ⟨w.heap.size, 0, none⟩) 1 (fun _ => le) (fun _ => se) (fun _ => pe)) := by
    rw [← HW0.out]
    exact box_new _ _ _ _
  rw [HW0.out]
  generalize w.heap.size = h0 at F0 ⊢
  clear HW0
  have bx0 := (box_cells F0.out).1
  have bx1 := (box_cells F0.out).2.1
  have bx2 := (box_cells F0.out).2.2
  go_wp2_with fail
  refine (zz14_at name a b na ca nb cb le se pe A1 S1 P1 A2 S2 P2 W0 (RR.out.1.later K0.out) (RR.out.2.later K0.out)).mono ?_
  rintro _ w1 ⟨⟨r, rfl⟩, hb⟩
  have K1 : Aside (Below w.heap.size w w1) := below2 K0.out hb
  have F1 : Aside (FRow w1 (some ⟨h0, 0, none⟩) 1 (fun _ => le) (fun _ => se) (fun _ => pe)) := F0.out.later hb
  clear hb bx0 bx1 bx2 K0 F0
  cases r with
  | false =>
    go_wp2_with fail
    go_ret
    exact ⟨rfl, K1.out⟩
  | true =>
  by_cases hsz : 1048576 < name.size
  · have hb : decide (1048576 < (name.size : Int)) = true := decide_eq_true (by omega)
    go_wp2_with fail
    go_ret
    exact ⟨rfl, K1.out⟩
  have hb : decide (1048576 < (name.size : Int)) = false := decide_eq_false (by omega)
  have bx1 := (box_cells F1.out).2.1
  by_cases hse : 1048576 < se.size
  · have hb2 : decide (1048576 < (se.size : Int)) = true := decide_eq_true (by omega)
    go_wp2_with fail
    go_ret
    exact ⟨rfl, K1.out⟩
  have hb2 : decide (1048576 < (se.size : Int)) = false := decide_eq_false (by omega)
  by_cases hc0 : 1048576 < name.size + se.size + 32
  · have hb3 : decide (1048576 < (name.size : Int) + (se.size : Int) + 32) = true := decide_eq_true (by omega)
    go_wp2_with fail
    go_ret
    exact ⟨rfl, K1.out⟩
  have hb3 : decide (1048576 < (name.size : Int) + (se.size : Int) + 32) = false := decide_eq_false (by omega)
  go_wp2_with fail
  refine (bytes_at ((name.size : Int) + (se.size : Int) + 32) a na ca A1 S1 P1 w1 (by omega) (by omega) (RR.out.1.later K1.out)).mono ?_
  rintro _ w' ⟨⟨t1, rfl, ht0, ht1⟩, rfl⟩
  clear hb hb2 hb3
  by_cases hc1 : 1048576 < t1
  · have hb : decide (1048576 < t1) = true := decide_eq_true hc1
    clear ht1
    go_wp2_with fail
    go_ret
    exact ⟨rfl, K1.out⟩
  have hna := ht1 (by omega)
  clear ht1
  have hb : decide (1048576 < t1) = false := decide_eq_false hc1
  go_wp2_with fail
  refine (bytes_at t1 b nb cb A2 S2 P2 w1 (by omega) (by omega) (RR.out.2.later K1.out)).mono ?_
  rintro _ w' ⟨⟨t2, rfl, hu0, hu1⟩, rfl⟩
  clear hb
  by_cases hc2 : 1048576 < t2
  · have hb : decide (1048576 < t2) = true := decide_eq_true hc2
    clear hu1
    go_wp2_with fail
    go_ret
    exact ⟨rfl, K1.out⟩
  have hnb := hu1 (by omega)
  clear hu1
  have hb : decide (1048576 < t2) = false := decide_eq_false hc2
  have bx0 := (box_cells F1.out).1
  have bx2 := (box_cells F1.out).2.2
  go_upto_region 15 with fail
  clear hb hc0 hc1 hc2 ht0 hu0 bx0 bx1 bx2 hsz hse
  obtain ⟨W2, HW2⟩ : ∃ W, Aside (w1.alloc (.cells #[.int .i64 le, .string se, .bool pe] 26) = W) := ⟨_, rfl⟩
  have K2 : Aside (Below w.heap.size w W2) := by
    rw [← HW2.out]
    exact below2 K1.out ((Below.refl _ _).alloc (Nat.le_refl _) _)
  have F2 : Aside (FRow W2 (some ⟨h0, 0, none⟩) 1 (fun _ => le) (fun _ => se) (fun _ => pe)) := by
    rw [← HW2.out]
    exact F1.out.later ((Below.refl _ _).alloc (Nat.le_refl _) _)
  have M2 : Aside (FRow W2 (some ⟨w1.heap.size, 0, none⟩) 1 (fun _ => le) (fun _ => se) (fun _ => pe)) := by
    rw [← HW2.out]
    exact box_new _ _ _ _
  rw [HW2.out]
  generalize w1.heap.size = hm at M2 ⊢
  clear HW2 K1 F1
  obtain ⟨X, SX, PX, HJX⟩ : ∃ (A : Nat → Int) (S : Nat → ByteArray) (P : Nat → Bool), Aside ((∀ i, i < na → A i = A1 i ∧ S i = S1 i ∧ P i = P1 i) ∧ (∀ i, i < nb → A (na + i) = A2 i ∧ S (na + i) = S2 i ∧ P (na + i) = P2 i)) :=
    ⟨jn na A1 A2, jn na S1 S2, jn na P1 P2, fun i hi => ⟨jn_l _ _ _ _ hi, jn_l _ _ _ _ hi, jn_l _ _ _ _ hi⟩, fun i hi => ⟨jn_r _ _ _ _, jn_r _ _ _ _, jn_r _ _ _ _⟩⟩
  obtain ⟨Y, SY, PY, HJY⟩ : ∃ (A : Nat → Int) (S : Nat → ByteArray) (P : Nat → Bool), Aside ((∀ i, i < na → A i = A1 i ∧ S i = S1 i ∧ P i = P1 i) ∧ (∀ i, i < 1 → A (na + i) = le ∧ S (na + i) = se ∧ P (na + i) = pe) ∧ (∀ i, i < nb → A (na + 1 + i) = A2 i ∧ S (na + 1 + i) = S2 i ∧ P (na + 1 + i) = P2 i)) :=
    ⟨jn3 na A1 le A2, jn3 na S1 se S2, jn3 na P1 pe P2, fun i hi => ⟨jn3_l _ _ _ _ _ hi, jn3_l _ _ _ _ _ hi, jn3_l _ _ _ _ _ hi⟩, fun i hi => by
      obtain rfl : i = 0 := by omega
      exact ⟨jn3_m _ _ _ _, jn3_m _ _ _ _, jn3_m _ _ _ _⟩, fun i hi => ⟨jn3_r _ _ _ _ _, jn3_r _ _ _ _ _, jn3_r _ _ _ _ _⟩⟩
  go_wp2_with fail
  refine (join_at a none b na ca 0 0 nb cb (na + nb) A1 (fun _ => 0) A2 X S1 (fun _ => ⟨#[]⟩) S2 SX P1 (fun _ => false) P2 PX W2 (RR.out.1.later K2.out) (nil_row _ _ _ _) (RR.out.2.later K2.out) (by omega) (by omega) HJX.out.1 (fun i hi => absurd hi (Nat.not_lt_zero _)) HJX.out.2).mono ?_
  rintro _ v1 ⟨rfl, hf, hb⟩
  have Y1 : Aside (FRow v1 (some ⟨W2.heap.size, 0, none⟩) (na + nb) X SX PX ∧ Below w.heap.size w v1) := ⟨hf, below2 K2.out hb⟩
  have E1 : Aside (Below W2.heap.size W2 v1) := hb
  clear hf hb
  generalize W2.heap.size = f1 at Y1 ⊢
  go_wp2_with fail
  refine (multi_at name (some ⟨f1, 0, none⟩) (na + nb) (na + nb) X SX PX v1 (by omega) Y1.out.1).mono ?_
  rintro _ u1 ⟨pa1, pc1, rfl, hp, hb⟩
  obtain ⟨L1, HL1⟩ : ∃ L, Aside (pads X PX (na + nb) 0 0 = L) := ⟨_, rfl⟩
  obtain ⟨t1, HT1⟩ : ∃ t, Aside (wsum X (na + nb) = t) := ⟨_, rfl⟩
  rw [HL1.out] at hp ⊢
  rw [HT1.out]
  have V1 : Aside (FRow u1 (some ⟨f1, 0, none⟩) (na + nb) X SX PX ∧ PRow u1 pa1 L1 ∧ Below v1.heap.size v1 u1 ∧ Below w.heap.size w u1) := ⟨Y1.out.1.later hb, hp, hb, below2 Y1.out.2 hb⟩
  clear hp hb
  unfold infoV
  go_upto_region 16 with fail
  obtain ⟨G1, HG1⟩ : ∃ W, Aside (u1.alloc (.cells #[.string name, .int .i64 t1, .int .i64 0, .slice none 0 0, (.slice (some ⟨f1, 0, none⟩) (na + nb) (na + nb)), .slice pa1 L1.length pc1] 32) = W) := ⟨_, rfl⟩
  have Q1 : Aside (G1.rowIs u1.heap.size 32 6 (iv name t1 (.slice (some ⟨f1, 0, none⟩) (na + nb) (na + nb)) (.slice pa1 L1.length pc1)) ∧ FRow G1 (some ⟨f1, 0, none⟩) (na + nb) X SX PX ∧ PRow G1 pa1 L1) := by
    rw [← HG1.out]
    exact ⟨iv_new _ _ _ _ _, V1.out.1.later ((Below.refl _ _).alloc (Nat.le_refl _) _), V1.out.2.1.later ((Below.refl _ _).alloc (Nat.le_refl _) _)⟩
  have X1 : Aside (Below w.heap.size w G1) := by rw [← HG1.out]; exact V1.out.2.2.2.alloc V1.out.2.2.2.size _
  have D1 : Aside (Below W2.heap.size W2 G1) := by rw [← HG1.out]; exact below2 (below2 E1.out V1.out.2.2.1) ((Below.refl _ _).alloc (Nat.le_refl _) _)
  rw [HG1.out]
  generalize u1.heap.size = g1 at Q1 ⊢
  clear HG1 V1 Y1 E1
  have MM1 : Aside (FRow G1 (some ⟨hm, 0, none⟩) 1 (fun _ => le) (fun _ => se) (fun _ => pe)) := M2.out.later D1.out
  go_wp2_with fail
  refine (join_at a (some ⟨hm, 0, none⟩) b na ca 1 1 nb cb (na + 1 + nb) A1 (fun _ => le) A2 Y S1 (fun _ => se) S2 SY P1 (fun _ => pe) P2 PY G1 (RR.out.1.later X1.out) MM1.out (RR.out.2.later X1.out) (by omega) (by omega) HJY.out.1 HJY.out.2.1 HJY.out.2.2).mono ?_
  rintro _ v2 ⟨rfl, hf, hb⟩
  have Y2 : Aside (FRow v2 (some ⟨G1.heap.size, 0, none⟩) (na + 1 + nb) Y SY PY ∧ Below w.heap.size w v2) := ⟨hf, below2 X1.out hb⟩
  have E2 : Aside (Below G1.heap.size G1 v2) := hb
  clear hf hb
  generalize G1.heap.size = f2 at Y2 ⊢
  go_wp2_with fail
  refine (multi_at name (some ⟨f2, 0, none⟩) (na + 1 + nb) (na + 1 + nb) Y SY PY v2 (by omega) Y2.out.1).mono ?_
  rintro _ u2 ⟨pa2, pc2, rfl, hp, hb⟩
  obtain ⟨L2, HL2⟩ : ∃ L, Aside (pads Y PY (na + 1 + nb) 0 0 = L) := ⟨_, rfl⟩
  obtain ⟨t2, HT2⟩ : ∃ t, Aside (wsum Y (na + 1 + nb) = t) := ⟨_, rfl⟩
  rw [HL2.out] at hp ⊢
  rw [HT2.out]
  have V2 : Aside (FRow u2 (some ⟨f2, 0, none⟩) (na + 1 + nb) Y SY PY ∧ PRow u2 pa2 L2 ∧ Below v2.heap.size v2 u2 ∧ Below w.heap.size w u2) := ⟨Y2.out.1.later hb, hp, hb, below2 Y2.out.2 hb⟩
  clear hp hb
  unfold infoV
  go_upto_region 17 with fail
  obtain ⟨G2, HG2⟩ : ∃ W, Aside (u2.alloc (.cells #[.string name, .int .i64 t2, .int .i64 0, .slice none 0 0, (.slice (some ⟨f2, 0, none⟩) (na + 1 + nb) (na + 1 + nb)), .slice pa2 L2.length pc2] 32) = W) := ⟨_, rfl⟩
  have Q2 : Aside (G2.rowIs u2.heap.size 32 6 (iv name t2 (.slice (some ⟨f2, 0, none⟩) (na + 1 + nb) (na + 1 + nb)) (.slice pa2 L2.length pc2)) ∧ FRow G2 (some ⟨f2, 0, none⟩) (na + 1 + nb) Y SY PY ∧ PRow G2 pa2 L2) := by
    rw [← HG2.out]
    exact ⟨iv_new _ _ _ _ _, V2.out.1.later ((Below.refl _ _).alloc (Nat.le_refl _) _), V2.out.2.1.later ((Below.refl _ _).alloc (Nat.le_refl _) _)⟩
  have X2 : Aside (Below w.heap.size w G2) := by rw [← HG2.out]; exact V2.out.2.2.2.alloc V2.out.2.2.2.size _
  have D2 : Aside (Below G1.heap.size G1 G2) := by rw [← HG2.out]; exact below2 (below2 E2.out V2.out.2.2.1) ((Below.refl _ _).alloc (Nat.le_refl _) _)
  rw [HG2.out]
  generalize u2.heap.size = g2 at Q2 ⊢
  clear HG2 V2 Y2 E2
  go_wp2_with fail
  refine (join_at a none none na ca 0 0 0 0 na A1 (fun _ => 0) (fun _ => 0) A1 S1 (fun _ => ⟨#[]⟩) (fun _ => ⟨#[]⟩) S1 P1 (fun _ => false) (fun _ => false) P1 G2 (RR.out.1.later X2.out) (nil_row _ _ _ _) (nil_row _ _ _ _) (by omega) (by omega) (fun i hi => ⟨rfl, rfl, rfl⟩) (fun i hi => absurd hi (Nat.not_lt_zero _)) (fun i hi => absurd hi (Nat.not_lt_zero _))).mono ?_
  rintro _ v3 ⟨rfl, hf, hb⟩
  have Y3 : Aside (FRow v3 (some ⟨G2.heap.size, 0, none⟩) (na) A1 S1 P1 ∧ Below w.heap.size w v3) := ⟨hf, below2 X2.out hb⟩
  have E3 : Aside (Below G2.heap.size G2 v3) := hb
  clear hf hb
  generalize G2.heap.size = f3 at Y3 ⊢
  go_wp2_with fail
  refine (multi_at name (some ⟨f3, 0, none⟩) (na) (na) A1 S1 P1 v3 (by omega) Y3.out.1).mono ?_
  rintro _ u3 ⟨pa3, pc3, rfl, hp, hb⟩
  obtain ⟨L3, HL3⟩ : ∃ L, Aside (pads A1 P1 (na) 0 0 = L) := ⟨_, rfl⟩
  obtain ⟨t3, HT3⟩ : ∃ t, Aside (wsum A1 (na) = t) := ⟨_, rfl⟩
  rw [HL3.out] at hp ⊢
  rw [HT3.out]
  have V3 : Aside (FRow u3 (some ⟨f3, 0, none⟩) (na) A1 S1 P1 ∧ PRow u3 pa3 L3 ∧ Below v3.heap.size v3 u3 ∧ Below w.heap.size w u3) := ⟨Y3.out.1.later hb, hp, hb, below2 Y3.out.2 hb⟩
  clear hp hb
  unfold infoV
  go_upto_region 18 with fail
  obtain ⟨G3, HG3⟩ : ∃ W, Aside (u3.alloc (.cells #[.string name, .int .i64 t3, .int .i64 0, .slice none 0 0, (.slice (some ⟨f3, 0, none⟩) (na) (na)), .slice pa3 L3.length pc3] 32) = W) := ⟨_, rfl⟩
  have Q3 : Aside (G3.rowIs u3.heap.size 32 6 (iv name t3 (.slice (some ⟨f3, 0, none⟩) (na) (na)) (.slice pa3 L3.length pc3)) ∧ FRow G3 (some ⟨f3, 0, none⟩) (na) A1 S1 P1 ∧ PRow G3 pa3 L3) := by
    rw [← HG3.out]
    exact ⟨iv_new _ _ _ _ _, V3.out.1.later ((Below.refl _ _).alloc (Nat.le_refl _) _), V3.out.2.1.later ((Below.refl _ _).alloc (Nat.le_refl _) _)⟩
  have X3 : Aside (Below w.heap.size w G3) := by rw [← HG3.out]; exact V3.out.2.2.2.alloc V3.out.2.2.2.size _
  have D3 : Aside (Below G2.heap.size G2 G3) := by rw [← HG3.out]; exact below2 (below2 E3.out V3.out.2.2.1) ((Below.refl _ _).alloc (Nat.le_refl _) _)
  rw [HG3.out]
  generalize u3.heap.size = g3 at Q3 ⊢
  clear HG3 V3 Y3 E3
  have BS : Aside (Base name g1 g2 g3 (iv name t1 (.slice (some ⟨f1, 0, none⟩) (na + nb) (na + nb)) (.slice pa1 L1.length pc1)) (iv name t2 (.slice (some ⟨f2, 0, none⟩) (na + 1 + nb) (na + 1 + nb)) (.slice pa2 L2.length pc2)) (iv name t3 (.slice (some ⟨f3, 0, none⟩) na na) (.slice pa3 L3.length pc3)) (fun U => FRow U (some ⟨f2, 0, none⟩) (na + 1 + nb) Y SY PY ∧ FRow U (some ⟨h0, 0, none⟩) 1 (fun _ => le) (fun _ => se) (fun _ => pe) ∧ FRow U (some ⟨hm, 0, none⟩) 1 (fun _ => le) (fun _ => se) (fun _ => pe)) (fun U => PRow U pa1 L1 ∧ PRow U pa2 L2 ∧ PRow U pa3 L3) w G3) := ⟨rowLater (rowLater Q1.out.1 D2.out) D3.out, rowLater Q2.out.1 D3.out, Q3.out.1, ⟨Q2.out.2.1.later D3.out, ((F2.out.later D1.out).later D2.out).later D3.out, (MM1.out.later D2.out).later D3.out⟩, ⟨(Q1.out.2.2.later D2.out).later D3.out, Q2.out.2.2.later D3.out, Q3.out.2.2⟩, X3.out⟩
  obtain ⟨r, hr⟩ : ∃ r, (pe && decide (0 < le)) = r := ⟨_, rfl⟩
  have hcon : ∀ W : World, Calls Try.prog 7 #[.agg #[.int .i64 le, .string se, .bool pe]] W fun e w' => e = .returned (.bool r) ∧ Below W.heap.size W w' := fun W => by rw [← hr]; exact holds_at _ _ _ W
  have H : Hid _ := hcon
  clear hcon
  have PL : Aside (∃ N, L1 = L3 ++ N ∧ L2 = L3 ++ (one r t3 le ++ N.map (shift le)) ∧ t2 = IntKind.i64.wrap (t1 + le)) := by
    obtain ⟨N, j1, j2, j3⟩ := insert_law A1 A2 X Y P1 P2 PX PY na nb le pe (fun i hi => ⟨(HJX.out.1 i hi).1, (HJX.out.1 i hi).2.2⟩) (fun i hi => ⟨(HJX.out.2 i hi).1, (HJX.out.2 i hi).2.2⟩) (fun i hi => ⟨(HJY.out.1 i hi).1, (HJY.out.1 i hi).2.2⟩) ⟨(HJY.out.2.1 0 (by omega)).1, (HJY.out.2.1 0 (by omega)).2.2⟩ (fun i hi => ⟨(HJY.out.2.2 i hi).1, (HJY.out.2.2 i hi).2.2⟩)
    rw [HL1.out, HL3.out] at j1
    rw [HL2.out, HL3.out, HT3.out, hr] at j2
    rw [HT2.out, HT1.out] at j3
    exact ⟨N, j1, j2, by rw [j3, IntKind.wrap_i64, wrap64]⟩
  have PC : L1.length ≤ 65536 ∧ L2.length ≤ 65537 := by
    have j1 := pads_cnt X PX (na + nb)
    have j2 := pads_cnt Y PY (na + 1 + nb)
    have j3 := cnt_le X PX (na + nb)
    have j4 := cnt_le Y PY (na + 1 + nb)
    rw [HL1.out] at j1
    rw [HL2.out] at j2
    omega
  clear hr Q1 Q2 Q3 D1 D2 D3 X1 X2 X3 HT1 HT2 HT3 HL1 HL2 HL3 K2 F2 M2 MM1
  obtain ⟨N, hj1, hj2, rfl⟩ := PL.out
  obtain ⟨m2, HM2⟩ : ∃ m, Aside (L3.length = m) := ⟨_, rfl⟩
  obtain ⟨m3, HM3⟩ : ∃ m, Aside (N.length = m) := ⟨_, rfl⟩
  obtain ⟨my, HMY⟩ : ∃ m, Aside (L2.length = m) := ⟨_, rfl⟩
  have hmx : L1.length = m2 + m3 := by rw [hj1, ← HM2.out, ← HM3.out]; simp
  have HMX : Aside (L1.length = m2 + m3) := hmx
  have HLL : Aside (my = m2 + ((one r t3 le).length + m3)) := by
    have := HMY.out
    rw [hj2] at this
    simp only [List.length_append, List.length_map] at this
    rw [HM2.out, HM3.out] at this
    exact this.symm
  have HJ1 : Aside (L1 = L3 ++ N ∧ L2 = L3 ++ (one r t3 le ++ N.map (shift le))) := ⟨hj1, hj2⟩
  rw [hmx, HMY.out] at PC
  rw [hmx, HMY.out, HM2.out] at BS
  clear PL hj1 hj2 hmx
  have LFH : Aside (∀ {U U2 : World}, (fun U => FRow U (some ⟨f2, 0, none⟩) (na + 1 + nb) Y SY PY ∧ FRow U (some ⟨h0, 0, none⟩) 1 (fun _ => le) (fun _ => se) (fun _ => pe) ∧ FRow U (some ⟨hm, 0, none⟩) 1 (fun _ => le) (fun _ => se) (fun _ => pe)) U → Below U.heap.size U U2 → (fun U => FRow U (some ⟨f2, 0, none⟩) (na + 1 + nb) Y SY PY ∧ FRow U (some ⟨h0, 0, none⟩) 1 (fun _ => le) (fun _ => se) (fun _ => pe) ∧ FRow U (some ⟨hm, 0, none⟩) 1 (fun _ => le) (fun _ => se) (fun _ => pe)) U2) := fun h k => ⟨h.1.later k, h.2.1.later k, h.2.2.later k⟩
  have LPH : Aside (∀ {U U2 : World}, (PRow U pa1 L1 ∧ PRow U pa2 L2 ∧ PRow U pa3 L3) → Below U.heap.size U U2 → (PRow U2 pa1 L1 ∧ PRow U2 pa2 L2 ∧ PRow U2 pa3 L3)) := fun h k => ⟨h.1.later k, h.2.1.later k, h.2.2.later k⟩
  have zg20 : G3.cell? ⟨g2, 0, none⟩ = some (.string name) := BS.out.r2.cell (by omega)
  have zg21 : G3.cell? ⟨g2, 1, none⟩ = some (.int .i64 (IntKind.i64.wrap (t1 + le))) := BS.out.r2.cell (by omega)
  have zg22 : G3.cell? ⟨g2, 2, none⟩ = some (.int .i64 0) := BS.out.r2.cell (by omega)
  have zg23 : G3.cell? ⟨g2, 3, none⟩ = some (.slice none 0 0) := BS.out.r2.cell (by omega)
  have zg24 : G3.cell? ⟨g2, 4, none⟩ = some ((.slice (some ⟨f2, 0, none⟩) (na + 1 + nb) (na + 1 + nb))) := BS.out.r2.cell (by omega)
  have zg25 : G3.cell? ⟨g2, 5, none⟩ = some (.slice pa2 my pc2) := BS.out.r2.cell (by omega)
  have zg11 : G3.cell? ⟨g1, 1, none⟩ = some (.int .i64 t1) := BS.out.r1.cell (by omega)
  have bx0 := (box_cells BS.out.fr.2.1).1
  go_wp2_with fail
  refine (files_at name _ _ _ G3).mono ?_
  rintro _ V1 ⟨rfl, hb⟩
  have B1 : Aside (Base name g1 g2 g3 (iv name t1 (.slice (some ⟨f1, 0, none⟩) (na + nb) (na + nb)) (.slice pa1 (m2 + m3) pc1)) (iv name (IntKind.i64.wrap (t1 + le)) (.slice (some ⟨f2, 0, none⟩) (na + 1 + nb) (na + 1 + nb)) (.slice pa2 my pc2)) (iv name t3 (.slice (some ⟨f3, 0, none⟩) na na) (.slice pa3 m2 pc3)) (fun U => FRow U (some ⟨f2, 0, none⟩) (na + 1 + nb) Y SY PY ∧ FRow U (some ⟨h0, 0, none⟩) 1 (fun _ => le) (fun _ => se) (fun _ => pe) ∧ FRow U (some ⟨hm, 0, none⟩) 1 (fun _ => le) (fun _ => se) (fun _ => pe)) (fun U => PRow U pa1 L1 ∧ PRow U pa2 L2 ∧ PRow U pa3 L3) w V1) := BS.out.later LFH.out LPH.out hb
  clear hb zg20 zg21 zg22 zg23 zg24 zg25 zg11 bx0
  go_wp2_with fail
  refine (same_at (some ⟨f2, 0, none⟩) a (some ⟨hm, 0, none⟩) b (na + 1 + nb) na ca 1 1 nb cb (na + 1 + nb) A1 (fun _ => le) A2 Y S1 (fun _ => se) S2 SY P1 (fun _ => pe) P2 PY V1 B1.out.fr.1 (RR.out.1.later B1.out.be) B1.out.fr.2.2 (RR.out.2.later B1.out.be) (by omega) (by omega) HJY.out.1 HJY.out.2.1 HJY.out.2.2).mono ?_
  rintro _ V2 ⟨rfl, hb⟩
  have B2 : Aside (Base name g1 g2 g3 (iv name t1 (.slice (some ⟨f1, 0, none⟩) (na + nb) (na + nb)) (.slice pa1 (m2 + m3) pc1)) (iv name (IntKind.i64.wrap (t1 + le)) (.slice (some ⟨f2, 0, none⟩) (na + 1 + nb) (na + 1 + nb)) (.slice pa2 my pc2)) (iv name t3 (.slice (some ⟨f3, 0, none⟩) na na) (.slice pa3 m2 pc3)) (fun U => FRow U (some ⟨f2, 0, none⟩) (na + 1 + nb) Y SY PY ∧ FRow U (some ⟨h0, 0, none⟩) 1 (fun _ => le) (fun _ => se) (fun _ => pe) ∧ FRow U (some ⟨hm, 0, none⟩) 1 (fun _ => le) (fun _ => se) (fun _ => pe)) (fun U => PRow U pa1 L1 ∧ PRow U pa2 L2 ∧ PRow U pa3 L3) w V2) := B1.out.later LFH.out LPH.out hb
  clear hb BS B1
  have bx0 := (box_cells B2.out.fr.2.1).1
  have bx1 := (box_cells B2.out.fr.2.1).2.1
  have bx2 := (box_cells B2.out.fr.2.1).2.2
  go_wp2_with fail
  refine Calls.mono (H.out _) ?_
  rintro _ V3 ⟨rfl, hb⟩
  have B3 : Aside (Base name g1 g2 g3 (iv name t1 (.slice (some ⟨f1, 0, none⟩) (na + nb) (na + nb)) (.slice pa1 (m2 + m3) pc1)) (iv name (IntKind.i64.wrap (t1 + le)) (.slice (some ⟨f2, 0, none⟩) (na + 1 + nb) (na + 1 + nb)) (.slice pa2 my pc2)) (iv name t3 (.slice (some ⟨f3, 0, none⟩) na na) (.slice pa3 m2 pc3)) (fun U => FRow U (some ⟨f2, 0, none⟩) (na + 1 + nb) Y SY PY ∧ FRow U (some ⟨h0, 0, none⟩) 1 (fun _ => le) (fun _ => se) (fun _ => pe) ∧ FRow U (some ⟨hm, 0, none⟩) 1 (fun _ => le) (fun _ => se) (fun _ => pe)) (fun U => PRow U pa1 L1 ∧ PRow U pa2 L2 ∧ PRow U pa3 L3) w V3) := B2.out.later LFH.out LPH.out hb
  clear hb B2 bx0 bx1 bx2 H
  have hgt : decide ((m2 : Int) + (m3 : Int) < (m2 : Int)) = false := decide_eq_false (by omega)
  cases r with
  | false =>
    obtain rfl : my = m2 + m3 := by rw [HLL.out]; show m2 + (0 + m3) = _; omega
    clear HLL
    have zg10 : V3.cell? ⟨g1, 0, none⟩ = some (.string name) := B3.out.r1.cell (by omega)
    have zg11 : V3.cell? ⟨g1, 1, none⟩ = some (.int .i64 t1) := B3.out.r1.cell (by omega)
    have zg12 : V3.cell? ⟨g1, 2, none⟩ = some (.int .i64 0) := B3.out.r1.cell (by omega)
    have zg13 : V3.cell? ⟨g1, 3, none⟩ = some (.slice none 0 0) := B3.out.r1.cell (by omega)
    have zg14 : V3.cell? ⟨g1, 4, none⟩ = some ((.slice (some ⟨f1, 0, none⟩) (na + nb) (na + nb))) := B3.out.r1.cell (by omega)
    have zg15 : V3.cell? ⟨g1, 5, none⟩ = some (.slice pa1 (m2 + m3) pc1) := B3.out.r1.cell (by omega)
    go_wp2_with fail
    refine (padLen_at name _ _ _ _ _ V3).mono ?_
    rintro _ V4 ⟨rfl, hb⟩
    have B4 : Aside (Base name g1 g2 g3 (iv name t1 (.slice (some ⟨f1, 0, none⟩) (na + nb) (na + nb)) (.slice pa1 (m2 + m3) pc1)) (iv name (IntKind.i64.wrap (t1 + le)) (.slice (some ⟨f2, 0, none⟩) (na + 1 + nb) (na + 1 + nb)) (.slice pa2 (m2 + m3) pc2)) (iv name t3 (.slice (some ⟨f3, 0, none⟩) na na) (.slice pa3 m2 pc3)) (fun U => FRow U (some ⟨f2, 0, none⟩) (na + 1 + nb) Y SY PY ∧ FRow U (some ⟨h0, 0, none⟩) 1 (fun _ => le) (fun _ => se) (fun _ => pe) ∧ FRow U (some ⟨hm, 0, none⟩) 1 (fun _ => le) (fun _ => se) (fun _ => pe)) (fun U => PRow U pa1 L1 ∧ PRow U pa2 L2 ∧ PRow U pa3 L3) w V4) := B3.out.later LFH.out LPH.out hb
    clear hb B3
    clear zg10 zg11 zg12 zg13 zg14 zg15
    have zg20 : V4.cell? ⟨g2, 0, none⟩ = some (.string name) := B4.out.r2.cell (by omega)
    have zg21 : V4.cell? ⟨g2, 1, none⟩ = some (.int .i64 (IntKind.i64.wrap (t1 + le))) := B4.out.r2.cell (by omega)
    have zg22 : V4.cell? ⟨g2, 2, none⟩ = some (.int .i64 0) := B4.out.r2.cell (by omega)
    have zg23 : V4.cell? ⟨g2, 3, none⟩ = some (.slice none 0 0) := B4.out.r2.cell (by omega)
    have zg24 : V4.cell? ⟨g2, 4, none⟩ = some ((.slice (some ⟨f2, 0, none⟩) (na + 1 + nb) (na + 1 + nb))) := B4.out.r2.cell (by omega)
    have zg25 : V4.cell? ⟨g2, 5, none⟩ = some (.slice pa2 (m2 + m3) pc2) := B4.out.r2.cell (by omega)
    go_wp2_with fail
    refine (padLen_at name _ _ _ _ _ V4).mono ?_
    rintro _ V5 ⟨rfl, hb⟩
    have B5 : Aside (Base name g1 g2 g3 (iv name t1 (.slice (some ⟨f1, 0, none⟩) (na + nb) (na + nb)) (.slice pa1 (m2 + m3) pc1)) (iv name (IntKind.i64.wrap (t1 + le)) (.slice (some ⟨f2, 0, none⟩) (na + 1 + nb) (na + 1 + nb)) (.slice pa2 (m2 + m3) pc2)) (iv name t3 (.slice (some ⟨f3, 0, none⟩) na na) (.slice pa3 m2 pc3)) (fun U => FRow U (some ⟨f2, 0, none⟩) (na + 1 + nb) Y SY PY ∧ FRow U (some ⟨h0, 0, none⟩) 1 (fun _ => le) (fun _ => se) (fun _ => pe) ∧ FRow U (some ⟨hm, 0, none⟩) 1 (fun _ => le) (fun _ => se) (fun _ => pe)) (fun U => PRow U pa1 L1 ∧ PRow U pa2 L2 ∧ PRow U pa3 L3) w V5) := B4.out.later LFH.out LPH.out hb
    clear hb B4
    clear zg20 zg21 zg22 zg23 zg24 zg25
    have zg30 : V5.cell? ⟨g3, 0, none⟩ = some (.string name) := B5.out.r3.cell (by omega)
    have zg31 : V5.cell? ⟨g3, 1, none⟩ = some (.int .i64 t3) := B5.out.r3.cell (by omega)
    have zg32 : V5.cell? ⟨g3, 2, none⟩ = some (.int .i64 0) := B5.out.r3.cell (by omega)
    have zg33 : V5.cell? ⟨g3, 3, none⟩ = some (.slice none 0 0) := B5.out.r3.cell (by omega)
    have zg34 : V5.cell? ⟨g3, 4, none⟩ = some ((.slice (some ⟨f3, 0, none⟩) na na)) := B5.out.r3.cell (by omega)
    have zg35 : V5.cell? ⟨g3, 5, none⟩ = some (.slice pa3 m2 pc3) := B5.out.r3.cell (by omega)
    go_wp2_with fail
    refine (padLen_at name _ _ _ _ _ V5).mono ?_
    rintro _ V6 ⟨rfl, hb⟩
    have B6 : Aside (Base name g1 g2 g3 (iv name t1 (.slice (some ⟨f1, 0, none⟩) (na + nb) (na + nb)) (.slice pa1 (m2 + m3) pc1)) (iv name (IntKind.i64.wrap (t1 + le)) (.slice (some ⟨f2, 0, none⟩) (na + 1 + nb) (na + 1 + nb)) (.slice pa2 (m2 + m3) pc2)) (iv name t3 (.slice (some ⟨f3, 0, none⟩) na na) (.slice pa3 m2 pc3)) (fun U => FRow U (some ⟨f2, 0, none⟩) (na + 1 + nb) Y SY PY ∧ FRow U (some ⟨h0, 0, none⟩) 1 (fun _ => le) (fun _ => se) (fun _ => pe) ∧ FRow U (some ⟨hm, 0, none⟩) 1 (fun _ => le) (fun _ => se) (fun _ => pe)) (fun U => PRow U pa1 L1 ∧ PRow U pa2 L2 ∧ PRow U pa3 L3) w V6) := B5.out.later LFH.out LPH.out hb
    clear hb B5
    clear zg30 zg31 zg32 zg33 zg34 zg35
    go_wp2_with fail
    go_loopg [18, 19, 20, 21, 22] m2 (fun g s18 s19 s20 s21 s22 wr => ∃ k : Nat, s18 = .int .i64 k ∧ k ≤ m2 ∧ m2 - k ≤ g ∧ Base name g1 g2 g3 (iv name t1 (.slice (some ⟨f1, 0, none⟩) (na + nb) (na + nb)) (.slice pa1 (m2 + m3) pc1)) (iv name (IntKind.i64.wrap (t1 + le)) (.slice (some ⟨f2, 0, none⟩) (na + 1 + nb) (na + 1 + nb)) (.slice pa2 (m2 + m3) pc2)) (iv name t3 (.slice (some ⟨f3, 0, none⟩) na na) (.slice pa3 m2 pc3)) (fun U => FRow U (some ⟨f2, 0, none⟩) (na + 1 + nb) Y SY PY ∧ FRow U (some ⟨h0, 0, none⟩) 1 (fun _ => le) (fun _ => se) (fun _ => pe) ∧ FRow U (some ⟨hm, 0, none⟩) 1 (fun _ => le) (fun _ => se) (fun _ => pe)) (fun U => PRow U pa1 L1 ∧ PRow U pa2 L2 ∧ PRow U pa3 L3) w wr)
    case atStart => exact ⟨0, rfl, Nat.zero_le _, by omega, B6.out⟩
    case round =>
      clear hgt B6
      obtain ⟨k, rfl, hk, hg, hbase⟩ := hrel
      have BB : Aside (Base name g1 g2 g3 (iv name t1 (.slice (some ⟨f1, 0, none⟩) (na + nb) (na + nb)) (.slice pa1 (m2 + m3) pc1)) (iv name (IntKind.i64.wrap (t1 + le)) (.slice (some ⟨f2, 0, none⟩) (na + 1 + nb) (na + 1 + nb)) (.slice pa2 (m2 + m3) pc2)) (iv name t3 (.slice (some ⟨f3, 0, none⟩) na na) (.slice pa3 m2 pc3)) (fun U => FRow U (some ⟨f2, 0, none⟩) (na + 1 + nb) Y SY PY ∧ FRow U (some ⟨h0, 0, none⟩) 1 (fun _ => le) (fun _ => se) (fun _ => pe) ∧ FRow U (some ⟨hm, 0, none⟩) 1 (fun _ => le) (fun _ => se) (fun _ => pe)) (fun U => PRow U pa1 L1 ∧ PRow U pa2 L2 ∧ PRow U pa3 L3) w wr) := hbase
      clear hbase
      by_cases hlt : k < m2
      · obtain ⟨p1, rfl, hp1, hc1⟩ := BB.out.pr.1.addr (by rw [HMX.out]; omega)
        obtain ⟨p2, rfl, hp2, hc2⟩ := BB.out.pr.2.1.addr (by rw [HMY.out]; omega)
        have e1 := hc1 k (by rw [HMX.out]; omega)
        have e2 := hc2 k (by rw [HMY.out]; omega)
        have ee1 : L1.getD k (0, 0) = L3.getD k (0, 0) := by rw [HJ1.out.1]; exact getD_l _ _ _ _ (by rw [HM2.out]; exact hlt)
        have ee2 : L2.getD k (0, 0) = L3.getD k (0, 0) := by rw [HJ1.out.2]; exact getD_l _ _ _ _ (by rw [HM2.out]; exact hlt)
        rw [ee1] at e1
        rw [ee2] at e2
        clear ee1 ee2 hc1 hc2
        generalize (L3.getD k (0, 0)).1 = x at e1 e2
        generalize (L3.getD k (0, 0)).2 = y at e1 e2
        have EE : Aside ((wr.cell? ⟨p2, k * 2, none⟩ = some (.int .i64 x) ∧ wr.cell? ⟨p2, k * 2 + 1, none⟩ = some (.int .i64 y)) ∧ (wr.cell? ⟨p1, k * 2, none⟩ = some (.int .i64 x) ∧ wr.cell? ⟨p1, k * 2 + 1, none⟩ = some (.int .i64 y))) := ⟨e2, e1⟩
        clear e1 e2
        have zg20 : wr.cell? ⟨g2, 0, none⟩ = some (.string name) := BB.out.r2.cell (by omega)
        have zg21 : wr.cell? ⟨g2, 1, none⟩ = some (.int .i64 (IntKind.i64.wrap (t1 + le))) := BB.out.r2.cell (by omega)
        have zg22 : wr.cell? ⟨g2, 2, none⟩ = some (.int .i64 0) := BB.out.r2.cell (by omega)
        have zg23 : wr.cell? ⟨g2, 3, none⟩ = some (.slice none 0 0) := BB.out.r2.cell (by omega)
        have zg24 : wr.cell? ⟨g2, 4, none⟩ = some ((.slice (some ⟨f2, 0, none⟩) (na + 1 + nb) (na + 1 + nb))) := BB.out.r2.cell (by omega)
        have zg25 : wr.cell? ⟨g2, 5, none⟩ = some (.slice (some ⟨p2, 0, none⟩) (m2 + m3) pc2) := BB.out.r2.cell (by omega)
        go_wp2_with fail
        refine (padAt_at name _ _ p2 (m2 + m3) pc2 k x y wr (by omega) EE.out.1.1 EE.out.1.2).mono ?_
        rintro _ w2 ⟨rfl, hb⟩
        have BB2 : Aside (Base name g1 g2 g3 (iv name t1 (.slice (some ⟨f1, 0, none⟩) (na + nb) (na + nb)) (.slice (some ⟨p1, 0, none⟩) (m2 + m3) pc1)) (iv name (IntKind.i64.wrap (t1 + le)) (.slice (some ⟨f2, 0, none⟩) (na + 1 + nb) (na + 1 + nb)) (.slice (some ⟨p2, 0, none⟩) (m2 + m3) pc2)) (iv name t3 (.slice (some ⟨f3, 0, none⟩) na na) (.slice pa3 m2 pc3)) (fun U => FRow U (some ⟨f2, 0, none⟩) (na + 1 + nb) Y SY PY ∧ FRow U (some ⟨h0, 0, none⟩) 1 (fun _ => le) (fun _ => se) (fun _ => pe) ∧ FRow U (some ⟨hm, 0, none⟩) 1 (fun _ => le) (fun _ => se) (fun _ => pe)) (fun U => PRow U (some ⟨p1, 0, none⟩) L1 ∧ PRow U (some ⟨p2, 0, none⟩) L2 ∧ PRow U pa3 L3) w w2) := BB.out.later LFH.out LPH.out hb
        have EE2 : Aside (w2.cell? ⟨p1, k * 2, none⟩ = some (.int .i64 x) ∧ w2.cell? ⟨p1, k * 2 + 1, none⟩ = some (.int .i64 y)) := ⟨cell_later hb EE.out.2.1, cell_later hb EE.out.2.2⟩
        clear hb EE
        clear zg20 zg21 zg22 zg23 zg24 zg25
        have zg10 : w2.cell? ⟨g1, 0, none⟩ = some (.string name) := BB2.out.r1.cell (by omega)
        have zg11 : w2.cell? ⟨g1, 1, none⟩ = some (.int .i64 t1) := BB2.out.r1.cell (by omega)
        have zg12 : w2.cell? ⟨g1, 2, none⟩ = some (.int .i64 0) := BB2.out.r1.cell (by omega)
        have zg13 : w2.cell? ⟨g1, 3, none⟩ = some (.slice none 0 0) := BB2.out.r1.cell (by omega)
        have zg14 : w2.cell? ⟨g1, 4, none⟩ = some ((.slice (some ⟨f1, 0, none⟩) (na + nb) (na + nb))) := BB2.out.r1.cell (by omega)
        have zg15 : w2.cell? ⟨g1, 5, none⟩ = some (.slice (some ⟨p1, 0, none⟩) (m2 + m3) pc1) := BB2.out.r1.cell (by omega)
        go_wp2_with fail
        refine (padAt_at name _ _ p1 (m2 + m3) pc1 k x y w2 (by omega) EE2.out.1 EE2.out.2).mono ?_
        rintro _ w3 ⟨rfl, hb⟩
        have BB3 : Aside (Base name g1 g2 g3 (iv name t1 (.slice (some ⟨f1, 0, none⟩) (na + nb) (na + nb)) (.slice (some ⟨p1, 0, none⟩) (m2 + m3) pc1)) (iv name (IntKind.i64.wrap (t1 + le)) (.slice (some ⟨f2, 0, none⟩) (na + 1 + nb) (na + 1 + nb)) (.slice (some ⟨p2, 0, none⟩) (m2 + m3) pc2)) (iv name t3 (.slice (some ⟨f3, 0, none⟩) na na) (.slice pa3 m2 pc3)) (fun U => FRow U (some ⟨f2, 0, none⟩) (na + 1 + nb) Y SY PY ∧ FRow U (some ⟨h0, 0, none⟩) 1 (fun _ => le) (fun _ => se) (fun _ => pe) ∧ FRow U (some ⟨hm, 0, none⟩) 1 (fun _ => le) (fun _ => se) (fun _ => pe)) (fun U => PRow U (some ⟨p1, 0, none⟩) L1 ∧ PRow U (some ⟨p2, 0, none⟩) L2 ∧ PRow U pa3 L3) w w3) := BB2.out.later LFH.out LPH.out hb
        clear hb
        clear zg10 zg11 zg12 zg13 zg14 zg15
        go_wp2_with fail
        go_roundg (m2 - (k + 1))
        case measure => omega
        case rel => exact ⟨k + 1, by go_num, by omega, by omega, BB3.out⟩
      · have e : m2 = k := by omega
        subst e
        clear hk hlt hg
        have BC := BB
        clear BB
        go_wp2_with fail
        go_loopg [25, 26, 27, 28, 29] m3 (fun g s25 s26 s27 s28 s29 wr => ∃ k : Nat, s25 = .int .i64 k ∧ m2 ≤ k ∧ k ≤ m2 + m3 ∧ m2 + m3 - k ≤ g ∧ Base name g1 g2 g3 (iv name t1 (.slice (some ⟨f1, 0, none⟩) (na + nb) (na + nb)) (.slice pa1 (m2 + m3) pc1)) (iv name (IntKind.i64.wrap (t1 + le)) (.slice (some ⟨f2, 0, none⟩) (na + 1 + nb) (na + 1 + nb)) (.slice pa2 (m2 + m3) pc2)) (iv name t3 (.slice (some ⟨f3, 0, none⟩) na na) (.slice pa3 m2 pc3)) (fun U => FRow U (some ⟨f2, 0, none⟩) (na + 1 + nb) Y SY PY ∧ FRow U (some ⟨h0, 0, none⟩) 1 (fun _ => le) (fun _ => se) (fun _ => pe) ∧ FRow U (some ⟨hm, 0, none⟩) 1 (fun _ => le) (fun _ => se) (fun _ => pe)) (fun U => PRow U pa1 L1 ∧ PRow U pa2 L2 ∧ PRow U pa3 L3) w wr)
        case atStart => exact ⟨m2, rfl, Nat.le_refl _, by omega, by omega, BC.out⟩
        case round =>
          clear BC
          obtain ⟨k, rfl, hk0, hk, hg, hbase⟩ := hrel
          have BB : Aside (Base name g1 g2 g3 (iv name t1 (.slice (some ⟨f1, 0, none⟩) (na + nb) (na + nb)) (.slice pa1 (m2 + m3) pc1)) (iv name (IntKind.i64.wrap (t1 + le)) (.slice (some ⟨f2, 0, none⟩) (na + 1 + nb) (na + 1 + nb)) (.slice pa2 (m2 + m3) pc2)) (iv name t3 (.slice (some ⟨f3, 0, none⟩) na na) (.slice pa3 m2 pc3)) (fun U => FRow U (some ⟨f2, 0, none⟩) (na + 1 + nb) Y SY PY ∧ FRow U (some ⟨h0, 0, none⟩) 1 (fun _ => le) (fun _ => se) (fun _ => pe) ∧ FRow U (some ⟨hm, 0, none⟩) 1 (fun _ => le) (fun _ => se) (fun _ => pe)) (fun U => PRow U pa1 L1 ∧ PRow U pa2 L2 ∧ PRow U pa3 L3) w wr) := hbase
          clear hbase
          by_cases hlt : k < m2 + m3
          · obtain ⟨p1, rfl, hp1, hc1⟩ := BB.out.pr.1.addr (by rw [HMX.out]; omega)
            obtain ⟨p2, rfl, hp2, hc2⟩ := BB.out.pr.2.1.addr (by rw [HMY.out]; omega)
            have hbt : decide ((k : Int) < (m2 : Int) + (m3 : Int)) = true := decide_eq_true (by omega)
            have e1 := hc1 k (by rw [HMX.out]; omega)
            have e2 := hc2 (k) (by rw [HMY.out]; omega)
            have ee2 : L2.getD (k) (0, 0) = (IntKind.i64.wrap ((L1.getD k (0, 0)).1 + le), IntKind.i64.wrap ((L1.getD k (0, 0)).2 + le)) := by
              have q := tail0 L3 N le t3 (k - m2) (by rw [HM3.out]; omega)
              rw [HM2.out, show m2 + (k - m2) = k from by omega] at q
              rw [HJ1.out.2, HJ1.out.1, q]
              simp only [IntKind.wrap_i64, shift, wrap64]
            rw [ee2] at e2
            clear ee2 hc1 hc2
            generalize (L1.getD k (0, 0)).1 = x at e1 e2
            generalize (L1.getD k (0, 0)).2 = y at e1 e2
            have EE : Aside ((wr.cell? ⟨p2, (k) * 2, none⟩ = some (.int .i64 (IntKind.i64.wrap (x + le))) ∧ wr.cell? ⟨p2, (k) * 2 + 1, none⟩ = some (.int .i64 (IntKind.i64.wrap (y + le)))) ∧ (wr.cell? ⟨p1, k * 2, none⟩ = some (.int .i64 x) ∧ wr.cell? ⟨p1, k * 2 + 1, none⟩ = some (.int .i64 y))) := ⟨e2, e1⟩
            clear e1 e2
            have zg20 : wr.cell? ⟨g2, 0, none⟩ = some (.string name) := BB.out.r2.cell (by omega)
            have zg21 : wr.cell? ⟨g2, 1, none⟩ = some (.int .i64 (IntKind.i64.wrap (t1 + le))) := BB.out.r2.cell (by omega)
            have zg22 : wr.cell? ⟨g2, 2, none⟩ = some (.int .i64 0) := BB.out.r2.cell (by omega)
            have zg23 : wr.cell? ⟨g2, 3, none⟩ = some (.slice none 0 0) := BB.out.r2.cell (by omega)
            have zg24 : wr.cell? ⟨g2, 4, none⟩ = some ((.slice (some ⟨f2, 0, none⟩) (na + 1 + nb) (na + 1 + nb))) := BB.out.r2.cell (by omega)
            have zg25 : wr.cell? ⟨g2, 5, none⟩ = some (.slice (some ⟨p2, 0, none⟩) (m2 + m3) pc2) := BB.out.r2.cell (by omega)
            go_wp2_with fail
            have con := padAt_at name (wrap64 (t1 + le)) (.slice (some ⟨f2, 0, none⟩) (na + 1 + nb) (na + 1 + nb)) p2 (m2 + m3) pc2 (k) (IntKind.i64.wrap (x + le)) (IntKind.i64.wrap (y + le)) wr (by omega) EE.out.1.1 EE.out.1.2
            refine con.mono ?_
            clear con
            rintro _ w2 ⟨rfl, hb⟩
            have BB2 : Aside (Base name g1 g2 g3 (iv name t1 (.slice (some ⟨f1, 0, none⟩) (na + nb) (na + nb)) (.slice (some ⟨p1, 0, none⟩) (m2 + m3) pc1)) (iv name (IntKind.i64.wrap (t1 + le)) (.slice (some ⟨f2, 0, none⟩) (na + 1 + nb) (na + 1 + nb)) (.slice (some ⟨p2, 0, none⟩) (m2 + m3) pc2)) (iv name t3 (.slice (some ⟨f3, 0, none⟩) na na) (.slice pa3 m2 pc3)) (fun U => FRow U (some ⟨f2, 0, none⟩) (na + 1 + nb) Y SY PY ∧ FRow U (some ⟨h0, 0, none⟩) 1 (fun _ => le) (fun _ => se) (fun _ => pe) ∧ FRow U (some ⟨hm, 0, none⟩) 1 (fun _ => le) (fun _ => se) (fun _ => pe)) (fun U => PRow U (some ⟨p1, 0, none⟩) L1 ∧ PRow U (some ⟨p2, 0, none⟩) L2 ∧ PRow U pa3 L3) w w2) := BB.out.later LFH.out LPH.out hb
            have EE2 : Aside (w2.cell? ⟨p1, k * 2, none⟩ = some (.int .i64 x) ∧ w2.cell? ⟨p1, k * 2 + 1, none⟩ = some (.int .i64 y)) := ⟨cell_later hb EE.out.2.1, cell_later hb EE.out.2.2⟩
            clear hb EE
            clear zg20 zg21 zg22 zg23 zg24 zg25
            have zg10 : w2.cell? ⟨g1, 0, none⟩ = some (.string name) := BB2.out.r1.cell (by omega)
            have zg11 : w2.cell? ⟨g1, 1, none⟩ = some (.int .i64 t1) := BB2.out.r1.cell (by omega)
            have zg12 : w2.cell? ⟨g1, 2, none⟩ = some (.int .i64 0) := BB2.out.r1.cell (by omega)
            have zg13 : w2.cell? ⟨g1, 3, none⟩ = some (.slice none 0 0) := BB2.out.r1.cell (by omega)
            have zg14 : w2.cell? ⟨g1, 4, none⟩ = some ((.slice (some ⟨f1, 0, none⟩) (na + nb) (na + nb))) := BB2.out.r1.cell (by omega)
            have zg15 : w2.cell? ⟨g1, 5, none⟩ = some (.slice (some ⟨p1, 0, none⟩) (m2 + m3) pc1) := BB2.out.r1.cell (by omega)
            go_wp2_with fail
            refine (padAt_at name _ _ p1 (m2 + m3) pc1 k x y w2 (by omega) EE2.out.1 EE2.out.2).mono ?_
            rintro _ w3 ⟨rfl, hb⟩
            have BB3 : Aside (Base name g1 g2 g3 (iv name t1 (.slice (some ⟨f1, 0, none⟩) (na + nb) (na + nb)) (.slice (some ⟨p1, 0, none⟩) (m2 + m3) pc1)) (iv name (IntKind.i64.wrap (t1 + le)) (.slice (some ⟨f2, 0, none⟩) (na + 1 + nb) (na + 1 + nb)) (.slice (some ⟨p2, 0, none⟩) (m2 + m3) pc2)) (iv name t3 (.slice (some ⟨f3, 0, none⟩) na na) (.slice pa3 m2 pc3)) (fun U => FRow U (some ⟨f2, 0, none⟩) (na + 1 + nb) Y SY PY ∧ FRow U (some ⟨h0, 0, none⟩) 1 (fun _ => le) (fun _ => se) (fun _ => pe) ∧ FRow U (some ⟨hm, 0, none⟩) 1 (fun _ => le) (fun _ => se) (fun _ => pe)) (fun U => PRow U (some ⟨p1, 0, none⟩) L1 ∧ PRow U (some ⟨p2, 0, none⟩) L2 ∧ PRow U pa3 L3) w w3) := BB2.out.later LFH.out LPH.out hb
            clear hb
            clear zg10 zg11 zg12 zg13 zg14 zg15
            have bx0 := (box_cells BB3.out.fr.2.1).1
            go_wp2_with fail
            go_roundg (m2 + m3 - (k + 1))
            case measure => omega
            case rel => exact ⟨k + 1, by go_num, by omega, by omega, by omega, BB3.out⟩
          · have hbt : decide ((k : Int) < (m2 : Int) + (m3 : Int)) = false := decide_eq_false (by omega)
            go_wp2_with fail
            go_ret
            exact ⟨rfl, BB.out.be⟩
  | true =>
    obtain rfl : my = m2 + m3 + 1 := by rw [HLL.out]; show m2 + (1 + m3) = _; omega
    clear HLL
    have zg10 : V3.cell? ⟨g1, 0, none⟩ = some (.string name) := B3.out.r1.cell (by omega)
    have zg11 : V3.cell? ⟨g1, 1, none⟩ = some (.int .i64 t1) := B3.out.r1.cell (by omega)
    have zg12 : V3.cell? ⟨g1, 2, none⟩ = some (.int .i64 0) := B3.out.r1.cell (by omega)
    have zg13 : V3.cell? ⟨g1, 3, none⟩ = some (.slice none 0 0) := B3.out.r1.cell (by omega)
    have zg14 : V3.cell? ⟨g1, 4, none⟩ = some ((.slice (some ⟨f1, 0, none⟩) (na + nb) (na + nb))) := B3.out.r1.cell (by omega)
    have zg15 : V3.cell? ⟨g1, 5, none⟩ = some (.slice pa1 (m2 + m3) pc1) := B3.out.r1.cell (by omega)
    go_wp2_with fail
    refine (padLen_at name _ _ _ _ _ V3).mono ?_
    rintro _ V4 ⟨rfl, hb⟩
    have B4 : Aside (Base name g1 g2 g3 (iv name t1 (.slice (some ⟨f1, 0, none⟩) (na + nb) (na + nb)) (.slice pa1 (m2 + m3) pc1)) (iv name (IntKind.i64.wrap (t1 + le)) (.slice (some ⟨f2, 0, none⟩) (na + 1 + nb) (na + 1 + nb)) (.slice pa2 (m2 + m3 + 1) pc2)) (iv name t3 (.slice (some ⟨f3, 0, none⟩) na na) (.slice pa3 m2 pc3)) (fun U => FRow U (some ⟨f2, 0, none⟩) (na + 1 + nb) Y SY PY ∧ FRow U (some ⟨h0, 0, none⟩) 1 (fun _ => le) (fun _ => se) (fun _ => pe) ∧ FRow U (some ⟨hm, 0, none⟩) 1 (fun _ => le) (fun _ => se) (fun _ => pe)) (fun U => PRow U pa1 L1 ∧ PRow U pa2 L2 ∧ PRow U pa3 L3) w V4) := B3.out.later LFH.out LPH.out hb
    clear hb B3
    clear zg10 zg11 zg12 zg13 zg14 zg15
    have zg20 : V4.cell? ⟨g2, 0, none⟩ = some (.string name) := B4.out.r2.cell (by omega)
    have zg21 : V4.cell? ⟨g2, 1, none⟩ = some (.int .i64 (IntKind.i64.wrap (t1 + le))) := B4.out.r2.cell (by omega)
    have zg22 : V4.cell? ⟨g2, 2, none⟩ = some (.int .i64 0) := B4.out.r2.cell (by omega)
    have zg23 : V4.cell? ⟨g2, 3, none⟩ = some (.slice none 0 0) := B4.out.r2.cell (by omega)
    have zg24 : V4.cell? ⟨g2, 4, none⟩ = some ((.slice (some ⟨f2, 0, none⟩) (na + 1 + nb) (na + 1 + nb))) := B4.out.r2.cell (by omega)
    have zg25 : V4.cell? ⟨g2, 5, none⟩ = some (.slice pa2 (m2 + m3 + 1) pc2) := B4.out.r2.cell (by omega)
    go_wp2_with fail
    refine (padLen_at name _ _ _ _ _ V4).mono ?_
    rintro _ V5 ⟨rfl, hb⟩
    have B5 : Aside (Base name g1 g2 g3 (iv name t1 (.slice (some ⟨f1, 0, none⟩) (na + nb) (na + nb)) (.slice pa1 (m2 + m3) pc1)) (iv name (IntKind.i64.wrap (t1 + le)) (.slice (some ⟨f2, 0, none⟩) (na + 1 + nb) (na + 1 + nb)) (.slice pa2 (m2 + m3 + 1) pc2)) (iv name t3 (.slice (some ⟨f3, 0, none⟩) na na) (.slice pa3 m2 pc3)) (fun U => FRow U (some ⟨f2, 0, none⟩) (na + 1 + nb) Y SY PY ∧ FRow U (some ⟨h0, 0, none⟩) 1 (fun _ => le) (fun _ => se) (fun _ => pe) ∧ FRow U (some ⟨hm, 0, none⟩) 1 (fun _ => le) (fun _ => se) (fun _ => pe)) (fun U => PRow U pa1 L1 ∧ PRow U pa2 L2 ∧ PRow U pa3 L3) w V5) := B4.out.later LFH.out LPH.out hb
    clear hb B4
    clear zg20 zg21 zg22 zg23 zg24 zg25
    have zg30 : V5.cell? ⟨g3, 0, none⟩ = some (.string name) := B5.out.r3.cell (by omega)
    have zg31 : V5.cell? ⟨g3, 1, none⟩ = some (.int .i64 t3) := B5.out.r3.cell (by omega)
    have zg32 : V5.cell? ⟨g3, 2, none⟩ = some (.int .i64 0) := B5.out.r3.cell (by omega)
    have zg33 : V5.cell? ⟨g3, 3, none⟩ = some (.slice none 0 0) := B5.out.r3.cell (by omega)
    have zg34 : V5.cell? ⟨g3, 4, none⟩ = some ((.slice (some ⟨f3, 0, none⟩) na na)) := B5.out.r3.cell (by omega)
    have zg35 : V5.cell? ⟨g3, 5, none⟩ = some (.slice pa3 m2 pc3) := B5.out.r3.cell (by omega)
    go_wp2_with fail
    refine (padLen_at name _ _ _ _ _ V5).mono ?_
    rintro _ V6 ⟨rfl, hb⟩
    have B6 : Aside (Base name g1 g2 g3 (iv name t1 (.slice (some ⟨f1, 0, none⟩) (na + nb) (na + nb)) (.slice pa1 (m2 + m3) pc1)) (iv name (IntKind.i64.wrap (t1 + le)) (.slice (some ⟨f2, 0, none⟩) (na + 1 + nb) (na + 1 + nb)) (.slice pa2 (m2 + m3 + 1) pc2)) (iv name t3 (.slice (some ⟨f3, 0, none⟩) na na) (.slice pa3 m2 pc3)) (fun U => FRow U (some ⟨f2, 0, none⟩) (na + 1 + nb) Y SY PY ∧ FRow U (some ⟨h0, 0, none⟩) 1 (fun _ => le) (fun _ => se) (fun _ => pe) ∧ FRow U (some ⟨hm, 0, none⟩) 1 (fun _ => le) (fun _ => se) (fun _ => pe)) (fun U => PRow U pa1 L1 ∧ PRow U pa2 L2 ∧ PRow U pa3 L3) w V6) := B5.out.later LFH.out LPH.out hb
    clear hb B5
    clear zg30 zg31 zg32 zg33 zg34 zg35
    go_wp2_with fail
    go_loopg [18, 19, 20, 21, 22] m2 (fun g s18 s19 s20 s21 s22 wr => ∃ k : Nat, s18 = .int .i64 k ∧ k ≤ m2 ∧ m2 - k ≤ g ∧ Base name g1 g2 g3 (iv name t1 (.slice (some ⟨f1, 0, none⟩) (na + nb) (na + nb)) (.slice pa1 (m2 + m3) pc1)) (iv name (IntKind.i64.wrap (t1 + le)) (.slice (some ⟨f2, 0, none⟩) (na + 1 + nb) (na + 1 + nb)) (.slice pa2 (m2 + m3 + 1) pc2)) (iv name t3 (.slice (some ⟨f3, 0, none⟩) na na) (.slice pa3 m2 pc3)) (fun U => FRow U (some ⟨f2, 0, none⟩) (na + 1 + nb) Y SY PY ∧ FRow U (some ⟨h0, 0, none⟩) 1 (fun _ => le) (fun _ => se) (fun _ => pe) ∧ FRow U (some ⟨hm, 0, none⟩) 1 (fun _ => le) (fun _ => se) (fun _ => pe)) (fun U => PRow U pa1 L1 ∧ PRow U pa2 L2 ∧ PRow U pa3 L3) w wr)
    case atStart => exact ⟨0, rfl, Nat.zero_le _, by omega, B6.out⟩
    case round =>
      clear hgt B6
      obtain ⟨k, rfl, hk, hg, hbase⟩ := hrel
      have BB : Aside (Base name g1 g2 g3 (iv name t1 (.slice (some ⟨f1, 0, none⟩) (na + nb) (na + nb)) (.slice pa1 (m2 + m3) pc1)) (iv name (IntKind.i64.wrap (t1 + le)) (.slice (some ⟨f2, 0, none⟩) (na + 1 + nb) (na + 1 + nb)) (.slice pa2 (m2 + m3 + 1) pc2)) (iv name t3 (.slice (some ⟨f3, 0, none⟩) na na) (.slice pa3 m2 pc3)) (fun U => FRow U (some ⟨f2, 0, none⟩) (na + 1 + nb) Y SY PY ∧ FRow U (some ⟨h0, 0, none⟩) 1 (fun _ => le) (fun _ => se) (fun _ => pe) ∧ FRow U (some ⟨hm, 0, none⟩) 1 (fun _ => le) (fun _ => se) (fun _ => pe)) (fun U => PRow U pa1 L1 ∧ PRow U pa2 L2 ∧ PRow U pa3 L3) w wr) := hbase
      clear hbase
      by_cases hlt : k < m2
      · obtain ⟨p1, rfl, hp1, hc1⟩ := BB.out.pr.1.addr (by rw [HMX.out]; omega)
        obtain ⟨p2, rfl, hp2, hc2⟩ := BB.out.pr.2.1.addr (by rw [HMY.out]; omega)
        have e1 := hc1 k (by rw [HMX.out]; omega)
        have e2 := hc2 k (by rw [HMY.out]; omega)
        have ee1 : L1.getD k (0, 0) = L3.getD k (0, 0) := by rw [HJ1.out.1]; exact getD_l _ _ _ _ (by rw [HM2.out]; exact hlt)
        have ee2 : L2.getD k (0, 0) = L3.getD k (0, 0) := by rw [HJ1.out.2]; exact getD_l _ _ _ _ (by rw [HM2.out]; exact hlt)
        rw [ee1] at e1
        rw [ee2] at e2
        clear ee1 ee2 hc1 hc2
        generalize (L3.getD k (0, 0)).1 = x at e1 e2
        generalize (L3.getD k (0, 0)).2 = y at e1 e2
        have EE : Aside ((wr.cell? ⟨p2, k * 2, none⟩ = some (.int .i64 x) ∧ wr.cell? ⟨p2, k * 2 + 1, none⟩ = some (.int .i64 y)) ∧ (wr.cell? ⟨p1, k * 2, none⟩ = some (.int .i64 x) ∧ wr.cell? ⟨p1, k * 2 + 1, none⟩ = some (.int .i64 y))) := ⟨e2, e1⟩
        clear e1 e2
        have zg20 : wr.cell? ⟨g2, 0, none⟩ = some (.string name) := BB.out.r2.cell (by omega)
        have zg21 : wr.cell? ⟨g2, 1, none⟩ = some (.int .i64 (IntKind.i64.wrap (t1 + le))) := BB.out.r2.cell (by omega)
        have zg22 : wr.cell? ⟨g2, 2, none⟩ = some (.int .i64 0) := BB.out.r2.cell (by omega)
        have zg23 : wr.cell? ⟨g2, 3, none⟩ = some (.slice none 0 0) := BB.out.r2.cell (by omega)
        have zg24 : wr.cell? ⟨g2, 4, none⟩ = some ((.slice (some ⟨f2, 0, none⟩) (na + 1 + nb) (na + 1 + nb))) := BB.out.r2.cell (by omega)
        have zg25 : wr.cell? ⟨g2, 5, none⟩ = some (.slice (some ⟨p2, 0, none⟩) (m2 + m3 + 1) pc2) := BB.out.r2.cell (by omega)
        go_wp2_with fail
        refine (padAt_at name _ _ p2 (m2 + m3 + 1) pc2 k x y wr (by omega) EE.out.1.1 EE.out.1.2).mono ?_
        rintro _ w2 ⟨rfl, hb⟩
        have BB2 : Aside (Base name g1 g2 g3 (iv name t1 (.slice (some ⟨f1, 0, none⟩) (na + nb) (na + nb)) (.slice (some ⟨p1, 0, none⟩) (m2 + m3) pc1)) (iv name (IntKind.i64.wrap (t1 + le)) (.slice (some ⟨f2, 0, none⟩) (na + 1 + nb) (na + 1 + nb)) (.slice (some ⟨p2, 0, none⟩) (m2 + m3 + 1) pc2)) (iv name t3 (.slice (some ⟨f3, 0, none⟩) na na) (.slice pa3 m2 pc3)) (fun U => FRow U (some ⟨f2, 0, none⟩) (na + 1 + nb) Y SY PY ∧ FRow U (some ⟨h0, 0, none⟩) 1 (fun _ => le) (fun _ => se) (fun _ => pe) ∧ FRow U (some ⟨hm, 0, none⟩) 1 (fun _ => le) (fun _ => se) (fun _ => pe)) (fun U => PRow U (some ⟨p1, 0, none⟩) L1 ∧ PRow U (some ⟨p2, 0, none⟩) L2 ∧ PRow U pa3 L3) w w2) := BB.out.later LFH.out LPH.out hb
        have EE2 : Aside (w2.cell? ⟨p1, k * 2, none⟩ = some (.int .i64 x) ∧ w2.cell? ⟨p1, k * 2 + 1, none⟩ = some (.int .i64 y)) := ⟨cell_later hb EE.out.2.1, cell_later hb EE.out.2.2⟩
        clear hb EE
        clear zg20 zg21 zg22 zg23 zg24 zg25
        have zg10 : w2.cell? ⟨g1, 0, none⟩ = some (.string name) := BB2.out.r1.cell (by omega)
        have zg11 : w2.cell? ⟨g1, 1, none⟩ = some (.int .i64 t1) := BB2.out.r1.cell (by omega)
        have zg12 : w2.cell? ⟨g1, 2, none⟩ = some (.int .i64 0) := BB2.out.r1.cell (by omega)
        have zg13 : w2.cell? ⟨g1, 3, none⟩ = some (.slice none 0 0) := BB2.out.r1.cell (by omega)
        have zg14 : w2.cell? ⟨g1, 4, none⟩ = some ((.slice (some ⟨f1, 0, none⟩) (na + nb) (na + nb))) := BB2.out.r1.cell (by omega)
        have zg15 : w2.cell? ⟨g1, 5, none⟩ = some (.slice (some ⟨p1, 0, none⟩) (m2 + m3) pc1) := BB2.out.r1.cell (by omega)
        go_wp2_with fail
        refine (padAt_at name _ _ p1 (m2 + m3) pc1 k x y w2 (by omega) EE2.out.1 EE2.out.2).mono ?_
        rintro _ w3 ⟨rfl, hb⟩
        have BB3 : Aside (Base name g1 g2 g3 (iv name t1 (.slice (some ⟨f1, 0, none⟩) (na + nb) (na + nb)) (.slice (some ⟨p1, 0, none⟩) (m2 + m3) pc1)) (iv name (IntKind.i64.wrap (t1 + le)) (.slice (some ⟨f2, 0, none⟩) (na + 1 + nb) (na + 1 + nb)) (.slice (some ⟨p2, 0, none⟩) (m2 + m3 + 1) pc2)) (iv name t3 (.slice (some ⟨f3, 0, none⟩) na na) (.slice pa3 m2 pc3)) (fun U => FRow U (some ⟨f2, 0, none⟩) (na + 1 + nb) Y SY PY ∧ FRow U (some ⟨h0, 0, none⟩) 1 (fun _ => le) (fun _ => se) (fun _ => pe) ∧ FRow U (some ⟨hm, 0, none⟩) 1 (fun _ => le) (fun _ => se) (fun _ => pe)) (fun U => PRow U (some ⟨p1, 0, none⟩) L1 ∧ PRow U (some ⟨p2, 0, none⟩) L2 ∧ PRow U pa3 L3) w w3) := BB2.out.later LFH.out LPH.out hb
        clear hb
        clear zg10 zg11 zg12 zg13 zg14 zg15
        go_wp2_with fail
        go_roundg (m2 - (k + 1))
        case measure => omega
        case rel => exact ⟨k + 1, by go_num, by omega, by omega, BB3.out⟩
      · have e : m2 = k := by omega
        subst e
        clear hk hlt hg
        obtain ⟨p2, rfl, hp2, hc2⟩ := BB.out.pr.2.1.addr (by rw [HMY.out]; omega)
        have e2 := hc2 m2 (by rw [HMY.out]; omega)
        have ee2 : L2.getD m2 (0, 0) = (t3, IntKind.i64.wrap (t3 + le)) := by
          have := mid1 L3 (N.map (shift le)) le t3
          rw [HM2.out] at this
          rw [HJ1.out.2, this, IntKind.wrap_i64, wrap64]
        rw [ee2] at e2
        clear ee2 hc2
        have EE : Aside (wr.cell? ⟨p2, m2 * 2, none⟩ = some (.int .i64 t3) ∧ wr.cell? ⟨p2, m2 * 2 + 1, none⟩ = some (.int .i64 (IntKind.i64.wrap (t3 + le)))) := e2
        clear e2
        have zg20 : wr.cell? ⟨g2, 0, none⟩ = some (.string name) := BB.out.r2.cell (by omega)
        have zg21 : wr.cell? ⟨g2, 1, none⟩ = some (.int .i64 (IntKind.i64.wrap (t1 + le))) := BB.out.r2.cell (by omega)
        have zg22 : wr.cell? ⟨g2, 2, none⟩ = some (.int .i64 0) := BB.out.r2.cell (by omega)
        have zg23 : wr.cell? ⟨g2, 3, none⟩ = some (.slice none 0 0) := BB.out.r2.cell (by omega)
        have zg24 : wr.cell? ⟨g2, 4, none⟩ = some ((.slice (some ⟨f2, 0, none⟩) (na + 1 + nb) (na + 1 + nb))) := BB.out.r2.cell (by omega)
        have zg25 : wr.cell? ⟨g2, 5, none⟩ = some (.slice (some ⟨p2, 0, none⟩) (m2 + m3 + 1) pc2) := BB.out.r2.cell (by omega)
        go_wp2_with fail
        refine (padAt_at name _ _ p2 (m2 + m3 + 1) pc2 m2 t3 (IntKind.i64.wrap (t3 + le)) wr (by omega) EE.out.1 EE.out.2).mono ?_
        rintro _ w2 ⟨rfl, hb⟩
        have BB2 : Aside (Base name g1 g2 g3 (iv name t1 (.slice (some ⟨f1, 0, none⟩) (na + nb) (na + nb)) (.slice pa1 (m2 + m3) pc1)) (iv name (IntKind.i64.wrap (t1 + le)) (.slice (some ⟨f2, 0, none⟩) (na + 1 + nb) (na + 1 + nb)) (.slice (some ⟨p2, 0, none⟩) (m2 + m3 + 1) pc2)) (iv name t3 (.slice (some ⟨f3, 0, none⟩) na na) (.slice pa3 m2 pc3)) (fun U => FRow U (some ⟨f2, 0, none⟩) (na + 1 + nb) Y SY PY ∧ FRow U (some ⟨h0, 0, none⟩) 1 (fun _ => le) (fun _ => se) (fun _ => pe) ∧ FRow U (some ⟨hm, 0, none⟩) 1 (fun _ => le) (fun _ => se) (fun _ => pe)) (fun U => PRow U pa1 L1 ∧ PRow U (some ⟨p2, 0, none⟩) L2 ∧ PRow U pa3 L3) w w2) := BB.out.later LFH.out LPH.out hb
        clear hb EE BB
        clear zg20 zg21 zg22 zg23 zg24 zg25
        have zg31 : w2.cell? ⟨g3, 1, none⟩ = some (.int .i64 t3) := BB2.out.r3.cell (by omega)
        have bx0 := (box_cells BB2.out.fr.2.1).1
        have BC := BB2
        clear BB2
        go_wp2_with fail
        clear zg31 bx0
        go_loopg [25, 26, 27, 28, 29] m3 (fun g s25 s26 s27 s28 s29 wr => ∃ k : Nat, s25 = .int .i64 k ∧ m2 ≤ k ∧ k ≤ m2 + m3 ∧ m2 + m3 - k ≤ g ∧ Base name g1 g2 g3 (iv name t1 (.slice (some ⟨f1, 0, none⟩) (na + nb) (na + nb)) (.slice pa1 (m2 + m3) pc1)) (iv name (IntKind.i64.wrap (t1 + le)) (.slice (some ⟨f2, 0, none⟩) (na + 1 + nb) (na + 1 + nb)) (.slice (some ⟨p2, 0, none⟩) (m2 + m3 + 1) pc2)) (iv name t3 (.slice (some ⟨f3, 0, none⟩) na na) (.slice pa3 m2 pc3)) (fun U => FRow U (some ⟨f2, 0, none⟩) (na + 1 + nb) Y SY PY ∧ FRow U (some ⟨h0, 0, none⟩) 1 (fun _ => le) (fun _ => se) (fun _ => pe) ∧ FRow U (some ⟨hm, 0, none⟩) 1 (fun _ => le) (fun _ => se) (fun _ => pe)) (fun U => PRow U pa1 L1 ∧ PRow U (some ⟨p2, 0, none⟩) L2 ∧ PRow U pa3 L3) w wr)
        case atStart => exact ⟨m2, rfl, Nat.le_refl _, by omega, by omega, BC.out⟩
        case round =>
          clear BC
          obtain ⟨k, rfl, hk0, hk, hg, hbase⟩ := hrel
          have BB : Aside (Base name g1 g2 g3 (iv name t1 (.slice (some ⟨f1, 0, none⟩) (na + nb) (na + nb)) (.slice pa1 (m2 + m3) pc1)) (iv name (IntKind.i64.wrap (t1 + le)) (.slice (some ⟨f2, 0, none⟩) (na + 1 + nb) (na + 1 + nb)) (.slice (some ⟨p2, 0, none⟩) (m2 + m3 + 1) pc2)) (iv name t3 (.slice (some ⟨f3, 0, none⟩) na na) (.slice pa3 m2 pc3)) (fun U => FRow U (some ⟨f2, 0, none⟩) (na + 1 + nb) Y SY PY ∧ FRow U (some ⟨h0, 0, none⟩) 1 (fun _ => le) (fun _ => se) (fun _ => pe) ∧ FRow U (some ⟨hm, 0, none⟩) 1 (fun _ => le) (fun _ => se) (fun _ => pe)) (fun U => PRow U pa1 L1 ∧ PRow U (some ⟨p2, 0, none⟩) L2 ∧ PRow U pa3 L3) w wr) := hbase
          clear hbase
          by_cases hlt : k < m2 + m3
          · obtain ⟨p1, rfl, hp1, hc1⟩ := BB.out.pr.1.addr (by rw [HMX.out]; omega)
            have HQ : Aside (0 < L2.length) := by rw [HMY.out]; exact Nat.succ_pos _
            have hc2 := BB.out.pr.2.1.addr HQ.out
            obtain ⟨p2n, heq, hp2n, hc2⟩ := hc2
            cases heq
            clear HQ
            have hbt : decide ((k : Int) < (m2 : Int) + (m3 : Int)) = true := decide_eq_true (by omega)
            have e1 := hc1 k (by rw [HMX.out]; omega)
            have e2 := hc2 (k + 1) (by rw [HMY.out]; omega)
            have ee2 : L2.getD (k + 1) (0, 0) = (IntKind.i64.wrap ((L1.getD k (0, 0)).1 + le), IntKind.i64.wrap ((L1.getD k (0, 0)).2 + le)) := by
              have q := tail1 L3 N le t3 (k - m2) (by rw [HM3.out]; omega)
              rw [HM2.out, show m2 + (k - m2) = k from by omega] at q
              rw [HJ1.out.2, HJ1.out.1, q]
              simp only [IntKind.wrap_i64, shift, wrap64]
            rw [ee2] at e2
            clear ee2 hc1 hc2
            generalize (L1.getD k (0, 0)).1 = x at e1 e2
            generalize (L1.getD k (0, 0)).2 = y at e1 e2
            have EE : Aside ((wr.cell? ⟨p2, (k + 1) * 2, none⟩ = some (.int .i64 (IntKind.i64.wrap (x + le))) ∧ wr.cell? ⟨p2, (k + 1) * 2 + 1, none⟩ = some (.int .i64 (IntKind.i64.wrap (y + le)))) ∧ (wr.cell? ⟨p1, k * 2, none⟩ = some (.int .i64 x) ∧ wr.cell? ⟨p1, k * 2 + 1, none⟩ = some (.int .i64 y))) := ⟨e2, e1⟩
            clear e1 e2
            have zg20 : wr.cell? ⟨g2, 0, none⟩ = some (.string name) := BB.out.r2.cell (by omega)
            have zg21 : wr.cell? ⟨g2, 1, none⟩ = some (.int .i64 (IntKind.i64.wrap (t1 + le))) := BB.out.r2.cell (by omega)
            have zg22 : wr.cell? ⟨g2, 2, none⟩ = some (.int .i64 0) := BB.out.r2.cell (by omega)
            have zg23 : wr.cell? ⟨g2, 3, none⟩ = some (.slice none 0 0) := BB.out.r2.cell (by omega)
            have zg24 : wr.cell? ⟨g2, 4, none⟩ = some ((.slice (some ⟨f2, 0, none⟩) (na + 1 + nb) (na + 1 + nb))) := BB.out.r2.cell (by omega)
            have zg25 : wr.cell? ⟨g2, 5, none⟩ = some (.slice (some ⟨p2, 0, none⟩) (m2 + m3 + 1) pc2) := BB.out.r2.cell (by omega)
            go_wp2_with fail
            have con := padAt_at name (wrap64 (t1 + le)) (.slice (some ⟨f2, 0, none⟩) (na + 1 + nb) (na + 1 + nb)) p2 (m2 + m3 + 1) pc2 (k + 1) (IntKind.i64.wrap (x + le)) (IntKind.i64.wrap (y + le)) wr (by omega) EE.out.1.1 EE.out.1.2
            rw [show ((k + 1 : Nat) : Int) = (k : Int) + 1 from rfl] at con
            refine con.mono ?_
            clear con
            rintro _ w2 ⟨rfl, hb⟩
            have BB2 : Aside (Base name g1 g2 g3 (iv name t1 (.slice (some ⟨f1, 0, none⟩) (na + nb) (na + nb)) (.slice (some ⟨p1, 0, none⟩) (m2 + m3) pc1)) (iv name (IntKind.i64.wrap (t1 + le)) (.slice (some ⟨f2, 0, none⟩) (na + 1 + nb) (na + 1 + nb)) (.slice (some ⟨p2, 0, none⟩) (m2 + m3 + 1) pc2)) (iv name t3 (.slice (some ⟨f3, 0, none⟩) na na) (.slice pa3 m2 pc3)) (fun U => FRow U (some ⟨f2, 0, none⟩) (na + 1 + nb) Y SY PY ∧ FRow U (some ⟨h0, 0, none⟩) 1 (fun _ => le) (fun _ => se) (fun _ => pe) ∧ FRow U (some ⟨hm, 0, none⟩) 1 (fun _ => le) (fun _ => se) (fun _ => pe)) (fun U => PRow U (some ⟨p1, 0, none⟩) L1 ∧ PRow U (some ⟨p2, 0, none⟩) L2 ∧ PRow U pa3 L3) w w2) := BB.out.later LFH.out LPH.out hb
            have EE2 : Aside (w2.cell? ⟨p1, k * 2, none⟩ = some (.int .i64 x) ∧ w2.cell? ⟨p1, k * 2 + 1, none⟩ = some (.int .i64 y)) := ⟨cell_later hb EE.out.2.1, cell_later hb EE.out.2.2⟩
            clear hb EE
            clear zg20 zg21 zg22 zg23 zg24 zg25
            have zg10 : w2.cell? ⟨g1, 0, none⟩ = some (.string name) := BB2.out.r1.cell (by omega)
            have zg11 : w2.cell? ⟨g1, 1, none⟩ = some (.int .i64 t1) := BB2.out.r1.cell (by omega)
            have zg12 : w2.cell? ⟨g1, 2, none⟩ = some (.int .i64 0) := BB2.out.r1.cell (by omega)
            have zg13 : w2.cell? ⟨g1, 3, none⟩ = some (.slice none 0 0) := BB2.out.r1.cell (by omega)
            have zg14 : w2.cell? ⟨g1, 4, none⟩ = some ((.slice (some ⟨f1, 0, none⟩) (na + nb) (na + nb))) := BB2.out.r1.cell (by omega)
            have zg15 : w2.cell? ⟨g1, 5, none⟩ = some (.slice (some ⟨p1, 0, none⟩) (m2 + m3) pc1) := BB2.out.r1.cell (by omega)
            go_wp2_with fail
            refine (padAt_at name _ _ p1 (m2 + m3) pc1 k x y w2 (by omega) EE2.out.1 EE2.out.2).mono ?_
            rintro _ w3 ⟨rfl, hb⟩
            have BB3 : Aside (Base name g1 g2 g3 (iv name t1 (.slice (some ⟨f1, 0, none⟩) (na + nb) (na + nb)) (.slice (some ⟨p1, 0, none⟩) (m2 + m3) pc1)) (iv name (IntKind.i64.wrap (t1 + le)) (.slice (some ⟨f2, 0, none⟩) (na + 1 + nb) (na + 1 + nb)) (.slice (some ⟨p2, 0, none⟩) (m2 + m3 + 1) pc2)) (iv name t3 (.slice (some ⟨f3, 0, none⟩) na na) (.slice pa3 m2 pc3)) (fun U => FRow U (some ⟨f2, 0, none⟩) (na + 1 + nb) Y SY PY ∧ FRow U (some ⟨h0, 0, none⟩) 1 (fun _ => le) (fun _ => se) (fun _ => pe) ∧ FRow U (some ⟨hm, 0, none⟩) 1 (fun _ => le) (fun _ => se) (fun _ => pe)) (fun U => PRow U (some ⟨p1, 0, none⟩) L1 ∧ PRow U (some ⟨p2, 0, none⟩) L2 ∧ PRow U pa3 L3) w w3) := BB2.out.later LFH.out LPH.out hb
            clear hb
            clear zg10 zg11 zg12 zg13 zg14 zg15
            have bx0 := (box_cells BB3.out.fr.2.1).1
            go_wp2_with fail
            go_roundg (m2 + m3 - (k + 1))
            case measure => omega
            case rel => exact ⟨k + 1, by go_num, by omega, by omega, by omega, BB3.out⟩
          · have hbt : decide ((k : Int) < (m2 : Int) + (m3 : Int)) = false := decide_eq_false (by omega)
            go_wp2_with fail
            go_ret
            exact ⟨rfl, BB.out.be⟩
end Go.Proofs.Qxb6629367a.W
