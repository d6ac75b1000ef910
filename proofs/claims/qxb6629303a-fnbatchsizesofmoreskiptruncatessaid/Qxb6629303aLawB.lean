import Derived.Test.Qxb6629303aPlainA
namespace Go.Proofs.Qxb6629303a.W
open Go.RowKit
set_option linter.unusedVariables false
set_option maxRecDepth 100000

theorem eqnil27b (w : World) (a : Option Addr) (n c : Nat) : (binOp .eql 27 (.slice a n c) (.slice none 0 0)).run Try.prog w = .ok (.bool a.isNone) w :=
  Lib.run_eql_slice_nil w 27 3 a n c 0 0 Try.underlying27

theorem ofL_lenb (s : Nat → Int) : ∀ (f k : Nat) (left : Int), (ofL s f k left).length ≤ f
  | 0, k, left => Nat.le_refl _
  | f + 1, k, left => by
    by_cases hp : 0 < left
    · rw [ofL_step s f k left hp]
      have := ofL_lenb s f (k + 1) (left - min (s k) left)
      simp; omega
    · rw [ofL_done s _ k left (by omega)]; simp

set_option maxHeartbeats 400000 in
theorem lawB_big (a : Option Addr) (len cap : Nat) (total skip skip2 : Int) (w : World) (h : 65536 < len) :
    Calls Try.prog 4 #[.slice a len cap, .int .i64 total, .int .i64 skip, .int .i64 skip2] w fun e w' => e = .returned (.bool true) ∧ Below w.heap.size w w' := by
  by_cases h2 : len ≤ 1048576
  · go_enter Try.func4, Try.ntmps4
    go_wp2_with (go_at_call 10; refine (bytes2_le _ _ _ _ _ _ _ h2).mono ?_; rintro e w' ⟨rfl, rfl⟩)
    go_ret
    exact ⟨rfl, Below.refl _ _⟩
  · go_enter Try.func4, Try.ntmps4
    go_wp2_with (go_at_call 10; refine (bytes2_gt _ _ _ _ _ _ _ (by omega)).mono ?_; rintro e w' ⟨rfl, rfl⟩)
    go_ret
    exact ⟨rfl, Below.refl _ _⟩

set_option maxHeartbeats 4000000 in
theorem lawB_any (a : Option Addr) (n cap : Nat) (N : Nat → Int) (P : Nat → Bool) (total skip skip2 : Int) (w : World) (hm : n ≤ 65536) (hnil : a = none → n = 0 ∧ cap = 0) (R : BRow w a n N P) (hN : ∀ i, i < n → N i ≤ 9223372036854775807) :
    Calls Try.prog 4 #[.slice a n cap, .int .i64 total, .int .i64 skip, .int .i64 skip2] w fun e w' => e = .returned (.bool true) ∧ Below w.heap.size w w' := by
  have RR : Aside (BRow w a n N P ∧ (a = none → n = 0 ∧ cap = 0) ∧ (∀ i, i < n → N i ≤ 9223372036854775807)) := ⟨R, hnil, hN⟩
  clear R hnil hN
  have hb0 : decide (65536 < (n : Int)) = false := decide_eq_false (by omega)
  go_enter Try.func4, Try.ntmps4
  go_wp2_with (go_at_call 10; refine (bytes2_le _ _ _ _ _ _ _ (by omega)).mono ?_; rintro e w' ⟨rfl, rfl⟩)
  refine (inRange_at a n cap N P total skip w hm RR.out.1).mono ?_
  rintro _ w' ⟨⟨r, rfl, hr⟩, rfl⟩
  cases r with
  | false =>
    clear hr
    go_wp2_with fail
    go_ret
    exact ⟨rfl, Below.refl _ _⟩
  | true =>
    obtain ⟨t1, t2, p1, p2, hd1, heach⟩ := hr rfl
    clear hr heach
    go_wp2_with fail
    refine (inRange_at a n cap N P total skip2 w hm RR.out.1).mono ?_
    rintro _ w' ⟨⟨r, rfl, hr⟩, rfl⟩
    cases r with
    | false =>
      clear hr
      go_wp2_with fail
      go_ret
      exact ⟨rfl, Below.refl _ _⟩
    | true =>
      obtain ⟨t1', t2', q1, q2, hd2, heach⟩ := hr rfl
      clear hr heach t1' t2'
      obtain ⟨lo, hi, HLH⟩ : ∃ lo hi, Aside (min skip skip2 = lo ∧ max skip skip2 = hi) := ⟨_, _, rfl, rfl⟩
      have hlo : -2147483648 ≤ lo ∧ lo ≤ hi ∧ hi ≤ 2147483648 ∧ total - lo ≤ 65536 := by have h1 := HLH.out.1; have h2 := HLH.out.2; omega
      obtain ⟨l1, Hl1⟩ : ∃ l1, Aside (max (total - lo) 0 = l1) := ⟨_, rfl⟩
      obtain ⟨l2, Hl2⟩ : ∃ l2, Aside (max (total - hi) 0 = l2) := ⟨_, rfl⟩
      have hl12 : 0 ≤ l2 ∧ l2 ≤ l1 ∧ l1 ≤ 65536 := by have h1 := Hl1.out; have h2 := Hl2.out; omega
      go_upto_if 45 with fail
      go_cut [9, 10] (fun s9 s10 wc => s9 = .int .i64 lo ∧ s10 = .int .i64 hi ∧ w = wc)
      case first =>
        by_cases hsw : skip2 < skip
        · have e1 : Aside (skip2 = lo ∧ skip = hi) := by have h1 := HLH.out.1; have h2 := HLH.out.2; exact ⟨by omega, by omega⟩
          go_wp2_with fail
          go_meet
          case rel => exact ⟨by rw [e1.out.1], by rw [e1.out.2], rfl⟩
        · have e1 : Aside (skip = lo ∧ skip2 = hi) := by have h1 := HLH.out.1; have h2 := HLH.out.2; exact ⟨by omega, by omega⟩
          go_wp2_with fail
          go_meet
          case rel => exact ⟨by rw [e1.out.1], by rw [e1.out.2], rfl⟩
      case rest =>
      obtain ⟨rfl, rfl, rfl⟩ := hcut
      clear p1 p2 q1 q2 hd1 hd2
      go_upto_if 52 with fail
      go_cut [11] (fun s wc => s = .int .i64 l1 ∧ w = wc)
      case first =>
        by_cases hneg : total - lo < 0
        · have e1 : Aside (0 = l1) := by have h1 := Hl1.out; show 0 = l1; omega
          go_wp2_with fail
          go_meet
          case rel => exact ⟨by rw [← e1.out], rfl⟩
        · have e1 : Aside (total - lo = l1) := by have h1 := Hl1.out; show total - lo = l1; omega
          go_wp2_with fail
          go_meet
          case rel => exact ⟨by rw [e1.out], rfl⟩
      case rest =>
      obtain ⟨rfl, rfl⟩ := hcut
      go_upto_if 57 with fail
      go_cut [12] (fun s wc => s = .int .i64 l2 ∧ w = wc)
      case first =>
        by_cases hneg : total - hi < 0
        · have e1 : Aside (0 = l2) := by have h1 := Hl2.out; show 0 = l2; omega
          go_wp2_with fail
          go_meet
          case rel => exact ⟨by rw [← e1.out], rfl⟩
        · have e1 : Aside (total - hi = l2) := by have h1 := Hl2.out; show total - hi = l2; omega
          go_wp2_with fail
          go_meet
          case rel => exact ⟨by rw [e1.out], rfl⟩
      case rest =>
      obtain ⟨rfl, rfl⟩ := hcut
      obtain ⟨L1, HL1⟩ : ∃ L1, Aside (ofL (sAt n N P total) 65536 0 (total - lo) = L1) := ⟨_, rfl⟩
      obtain ⟨L2, HL2⟩ : ∃ L2, Aside (ofL (sAt n N P total) 65536 0 (total - hi) = L2) := ⟨_, rfl⟩
      have F : Aside ((psum L1 L1.length = l1 ∧ ∀ i, i < L1.length → 1 ≤ L1.getD i 0 ∧ L1.getD i 0 ≤ l1 - psum L1 i) ∧ (psum L2 L2.length = l2 ∧ ∀ i, i < L2.length → 1 ≤ L2.getD i 0 ∧ L2.getD i 0 ≤ l2 - psum L2 i) ∧ L2.length ≤ L1.length ∧ (∀ i, i < L2.length → L2.getD i 0 = min (L1.getD i 0) (l2 - psum L2 i)) ∧ L1.length ≤ 65536 ∧ (l1 = 0 → L1 = []) ∧ (l2 = 0 → L2 = [])) := by
        have hs := sAt_ge n N P total
        have e1 : ofL (sAt n N P total) 65536 0 l1 = L1 := by
          rw [← HL1.out]
          have h1 := Hl1.out
          by_cases h : 0 ≤ total - lo
          · rw [show total - lo = l1 from by omega]
          · rw [ofL_done _ _ _ _ (by omega), ofL_done _ _ _ _ (by omega)]
        have e2 : ofL (sAt n N P total) 65536 0 l2 = L2 := by
          rw [← HL2.out]
          have h1 := Hl2.out
          by_cases h : 0 ≤ total - hi
          · rw [show total - hi = l2 from by omega]
          · rw [ofL_done _ _ _ _ (by omega), ofL_done _ _ _ _ (by omega)]
        have a1 := ofL_sum _ hs 65536 0 l1 (by omega) (by omega)
        have a2 := ofL_sum _ hs 65536 0 l2 (by omega) (by omega)
        have a3 := ofL_trunc _ hs 65536 0 l1 l2 (by omega) (by omega)
        have a4 := ofL_lenb (sAt n N P total) 65536 0 l1
        rw [e1] at a1 a3 a4
        rw [e2] at a2 a3
        exact ⟨a1, a2, a3.1, a3.2, a4, fun h => by rw [← e1, ofL_done _ _ _ _ (by omega)], fun h => by rw [← e2, ofL_done _ _ _ _ (by omega)]⟩
      by_cases hz : l1 = 0
      · have hl1 : L1 = [] := F.out.2.2.2.2.2.1 hz
        have hl2' : l2 = 0 := by omega
        have hl2 : L2 = [] := F.out.2.2.2.2.2.2 hl2'
        have hd : total - lo ≤ 0 := by have h1 := Hl1.out; omega
        clear F Hl1 Hl2 HLH
        subst hz hl1 hl2' hl2
        have G : Aside (total - lo ≤ 0) := hd
        have G2 : Aside (ofL (sAt n N P total) 65536 0 (total - lo) = [] ∧ ofL (sAt n N P total) 65536 0 (total - hi) = []) := ⟨HL1.out, HL2.out⟩
        rcases Nat.eq_zero_or_pos n with hn0 | hn0
        · subst hn0
          go_wp2_with fail
          refine (build_any a 0 cap N P w hm (fun h => ⟨rfl, (RR.out.2.1 h).2⟩) RR.out.1).mono ?_
          rintro _ w1 ⟨a1, c1, rfl, hc1, hc2, hr1, hg1, hbel1⟩
          have Z1 : Aside (BRow w1 a1 0 N P ∧ Below w.heap.size w w1) := ⟨hr1, hbel1⟩
          clear hr1 hbel1 hg1
          go_wp2_with fail
          refine (of_at a1 0 c1 N P total lo w1 hm Z1.out.1 (.inr G.out) t1 t2 (by omega) (by omega) (by omega) RR.out.2.2).mono ?_
          intro e w2 hpost
          rw [G2.out.1] at hpost
          obtain ⟨ao, c2, rfl, hrow, hlnil, hbel2⟩ := hpost.row
          obtain ⟨rfl, rfl⟩ := hlnil rfl
          have Z2 : Aside (Below w1.heap.size w1 w2) := hbel2
          clear hpost hrow hlnil hbel2
          go_wp2_with fail
          refine (of_at a1 0 c1 N P total hi w2 hm (Z1.out.1.later Z2.out) (.inr (by omega)) t1 t2 (by omega) (by omega) (by omega) RR.out.2.2).mono ?_
          intro e w3 hpost
          rw [G2.out.2] at hpost
          obtain ⟨ao3, c3, rfl, hrow3, hlnil3, hbel3⟩ := hpost.row
          obtain ⟨rfl, rfl⟩ := hlnil3 rfl
          have Z3 : Aside (Below w2.heap.size w2 w3) := hbel3
          clear hpost hrow3 hlnil3 hbel3
          have hq := eqnil27b
          go_wp2_with fail
          go_loopg [16, 17] 0 (fun g s16 s17 wr => s16 = .int .i64 0 ∧ s17 = .int .i64 0 ∧ w3 = wr)
          case atStart => exact ⟨rfl, rfl, rfl⟩
          case round =>
            obtain ⟨rfl, rfl, rfl⟩ := hrel
            go_wp2_with fail
            go_loopg [16, 18, 19] 0 (fun g s16 s18 s19 wr => s16 = .int .i64 0 ∧ s18 = .int .i64 0 ∧ w3 = wr)
            case atStart => exact ⟨rfl, rfl, rfl⟩
            case round =>
              obtain ⟨rfl, rfl, rfl⟩ := hrel
              go_wp2_with fail
              go_ret
              exact ⟨rfl, below2 (below2 Z1.out.2 Z2.out) Z3.out⟩
        · have hb1 : ((n : Int) == 0) = false := beq_eq_false_iff_ne.2 (by omega)
          go_wp2_with fail
          refine (build_any a n cap N P w hm RR.out.2.1 RR.out.1).mono ?_
          rintro _ w1 ⟨a1, c1, rfl, hc1, hc2, hr1, hg1, hbel1⟩
          have Z1 : Aside (BRow w1 a1 n N P ∧ Below w.heap.size w w1) := ⟨hr1, hbel1⟩
          clear hr1 hbel1 hg1
          go_wp2_with fail
          refine (of_at a1 n c1 N P total lo w1 hm Z1.out.1 (.inr G.out) t1 t2 (by omega) (by omega) (by omega) RR.out.2.2).mono ?_
          intro e w2 hpost
          rw [G2.out.1] at hpost
          obtain ⟨ao, c2, rfl, hrow, hlnil, hbel2⟩ := hpost.row
          obtain ⟨rfl, rfl⟩ := hlnil rfl
          have Z2 : Aside (Below w1.heap.size w1 w2) := hbel2
          clear hpost hrow hlnil hbel2
          go_wp2_with fail
          refine (of_at a1 n c1 N P total hi w2 hm (Z1.out.1.later Z2.out) (.inr (by omega)) t1 t2 (by omega) (by omega) (by omega) RR.out.2.2).mono ?_
          intro e w3 hpost
          rw [G2.out.2] at hpost
          obtain ⟨ao3, c3, rfl, hrow3, hlnil3, hbel3⟩ := hpost.row
          obtain ⟨rfl, rfl⟩ := hlnil3 rfl
          have Z3 : Aside (Below w2.heap.size w2 w3) := hbel3
          clear hpost hrow3 hlnil3 hbel3
          have hq := eqnil27b
          go_wp2_with fail
          go_loopg [16, 17] 0 (fun g s16 s17 wr => s16 = .int .i64 0 ∧ s17 = .int .i64 0 ∧ w3 = wr)
          case atStart => exact ⟨rfl, rfl, rfl⟩
          case round =>
            obtain ⟨rfl, rfl, rfl⟩ := hrel
            go_wp2_with fail
            go_loopg [16, 18, 19] 0 (fun g s16 s18 s19 wr => s16 = .int .i64 0 ∧ s18 = .int .i64 0 ∧ w3 = wr)
            case atStart => exact ⟨rfl, rfl, rfl⟩
            case round =>
              obtain ⟨rfl, rfl, rfl⟩ := hrel
              go_wp2_with fail
              go_ret
              exact ⟨rfl, below2 (below2 Z1.out.2 Z2.out) Z3.out⟩
      · have hzb : (l1 == 0) = false := beq_eq_false_iff_ne.2 hz
        have hgt : decide (0 < l1) = true := decide_eq_true (by omega)
        rcases Nat.eq_zero_or_pos n with hn0 | hn0
        · subst hn0
          go_wp2_with fail
          go_ret
          exact ⟨rfl, Below.refl _ _⟩
        · have hb1 : ((n : Int) == 0) = false := beq_eq_false_iff_ne.2 (by omega)
          go_wp2_with fail
          refine (build_any a n cap N P w hm RR.out.2.1 RR.out.1).mono ?_
          rintro _ w1 ⟨a1, c1, rfl, hc1, hc2, hr1, hg1, hbel1⟩
          have Z1 : Aside (BRow w1 a1 n N P ∧ Below w.heap.size w w1) := ⟨hr1, hbel1⟩
          clear hr1 hbel1 hg1
          go_wp2_with fail
          refine (of_at a1 n c1 N P total lo w1 hm Z1.out.1 (.inl hn0) t1 t2 (by omega) (by omega) (by omega) RR.out.2.2).mono ?_
          intro e w2 hpost
          rw [HL1.out] at hpost
          obtain ⟨ao, c2, rfl, hrow, hlnil, hbel2⟩ := hpost.row
          have Z2 : Aside (IRow w2 ao L1 ∧ Below w1.heap.size w1 w2) := ⟨hrow, hbel2⟩
          clear hpost hrow hlnil hbel2
          go_wp2_with fail
          refine (of_at a1 n c1 N P total hi w2 hm (Z1.out.1.later Z2.out.2) (.inl hn0) t1 t2 (by omega) (by omega) (by omega) RR.out.2.2).mono ?_
          intro e w3 hpost
          rw [HL2.out] at hpost
          obtain ⟨ao3, c3, rfl, hrow3, hlnil3, hbel3⟩ := hpost.row
          have Z3 : Aside (IRow w3 ao3 L2 ∧ IRow w3 ao L1 ∧ Below w.heap.size w w3 ∧ (L2 = [] → ao3 = none ∧ c3 = 0)) := ⟨hrow3, Z2.out.1.later hbel3, below2 (below2 Z1.out.2 Z2.out.2) hbel3, hlnil3⟩
          clear hpost hrow3 hlnil3 hbel3 Z2 Z1 HL1 HL2 Hl1 Hl2 HLH RR
          obtain ⟨m1, HM1⟩ : ∃ m, Aside (L1.length = m) := ⟨_, rfl⟩
          obtain ⟨m2, HM2⟩ : ∃ m, Aside (L2.length = m) := ⟨_, rfl⟩
          rw [HM1.out, HM2.out]
          have hm12 : m2 ≤ m1 ∧ m1 ≤ 65536 := by rw [← HM1.out, ← HM2.out]; exact ⟨F.out.2.2.1, F.out.2.2.2.2.1⟩
          go_wp2_with fail
          go_loopg [16, 17] m1 (fun g s16 s17 wr => ∃ k q : Nat, s16 = .int .i64 (psum L1 k) ∧ s17 = .int .i64 k ∧ k ≤ m1 ∧ m1 - k ≤ g ∧ w3.drewN q = wr)
          case atStart => exact ⟨0, 0, rfl, rfl, Nat.zero_le _, by omega, rfl⟩
          case round =>
            obtain ⟨k, q, rfl, rfl, hk, hg, rfl⟩ := hrel
            have hac := psum_nonneg L1 (fun i hi => (F.out.1.2 i hi).1) k (by rw [HM1.out]; exact hk)
            have hxx : Aside (k < m1 → psum L1 (k + 1) = psum L1 k + L1.getD k 0 ∧ 1 ≤ L1.getD k 0 ∧ L1.getD k 0 ≤ l1 - psum L1 k) := fun h => ⟨rfl, F.out.1.2 k (by rw [HM1.out]; exact h)⟩
            have hend : Aside (k = m1 → psum L1 k = l1) := fun h => by rw [h, ← HM1.out]; exact F.out.1.1
            by_cases hkl : k < m1
            · obtain ⟨g4, rfl, hg4, hc4⟩ := Z3.out.2.1.addr (by rw [HM1.out]; omega)
              have d1 := hc4 k (by rw [HM1.out]; exact hkl)
              have hx2 := hxx.out hkl
              have hx3 : Aside (psum L1 (k + 1) = psum L1 k + L1.getD k 0) := hx2.1
              have hx4 := hx2.2
              clear hc4 hx2 hend hxx
              generalize L1.getD k 0 = y at d1 hx3 hx4
              generalize psum L1 k = A at hx3 hx4 hac
              have c1 : decide (y < 1) = false := decide_eq_false (by omega)
              have c2 : decide (l1 - A < y) = false := decide_eq_false (by omega)
              go_wp2_with fail
              go_roundg (m1 - (k + 1))
              case measure => omega
              case rel => exact ⟨k + 1, _, by rw [hx3.out], by go_num, by omega, by omega, rfl⟩
            · have hA : psum L1 k = l1 := hend.out (by omega)
              rw [hA]
              clear hA hend hxx hac
              have hne : (l1 != l1) = false := by simp
              have hsz : Aside (Below w.heap.size w (w3.drewN q) ∧ ∀ x v, w3.cell? x = some v → (w3.drewN q).cell? x = some v) := ⟨below_drewN (below2 Z3.out.2.2.1 (Below.refl _ _)) _, fun x v h => by simpa using h⟩
              go_wp2_with fail
              go_loopg [16, 18, 19] m2 (fun g s16 s18 s19 wr => ∃ k q : Nat, s16 = .int .i64 (psum L2 k) ∧ s18 = .int .i64 k ∧ k ≤ m2 ∧ m2 - k ≤ g ∧ w3.drewN q = wr)
              case atStart => exact ⟨0, _, rfl, rfl, Nat.zero_le _, by omega, rfl⟩
              case round =>
                clear hsz
                obtain ⟨k, q, rfl, rfl, hk, hg, rfl⟩ := hrel
                have hac := psum_nonneg L2 (fun i hi => (F.out.2.1.2 i hi).1) k (by rw [HM2.out]; exact hk)
                have hiff := psum_lt L2 l2 F.out.2.1.1 (fun i hi => (F.out.2.1.2 i hi).1) k (by rw [HM2.out]; exact hk)
                rw [HM2.out] at hiff
                have hxx : Aside (k < m2 → psum L2 (k + 1) = psum L2 k + L2.getD k 0 ∧ 1 ≤ L2.getD k 0 ∧ L2.getD k 0 ≤ l2 - psum L2 k ∧ L2.getD k 0 = min (L1.getD k 0) (l2 - psum L2 k)) := fun h => ⟨rfl, (F.out.2.1.2 k (by rw [HM2.out]; exact h)).1, (F.out.2.1.2 k (by rw [HM2.out]; exact h)).2, F.out.2.2.2.1 k (by rw [HM2.out]; exact h)⟩
                by_cases hkl : k < m2
                · obtain ⟨g4, rfl, hg4, hc4⟩ := Z3.out.2.1.addr (by rw [HM1.out]; omega)
                  obtain ⟨g5, rfl, hg5, hc5⟩ := Z3.out.1.addr (by rw [HM2.out]; omega)
                  have d1 := hc4 k (by rw [HM1.out]; omega)
                  have d2 := hc5 k (by rw [HM2.out]; exact hkl)
                  have hx2 := hxx.out hkl
                  have hx3 : Aside (psum L2 (k + 1) = psum L2 k + L2.getD k 0) := hx2.1
                  have hx4 := hx2.2
                  have hlt := hiff.2 hkl
                  have hx5 : Aside (L2.getD k 0 = min (L1.getD k 0) (l2 - psum L2 k)) := hx4.2.2
                  have hx6 : 1 ≤ L2.getD k 0 ∧ L2.getD k 0 ≤ l2 - psum L2 k := ⟨hx4.1, hx4.2.1⟩
                  clear hc4 hc5 hx2 hxx hiff hx4
                  generalize L1.getD k 0 = y at d1 hx5
                  generalize L2.getD k 0 = z at d2 hx3 hx5 hx6
                  generalize psum L2 k = A at hx3 hx5 hx6 hlt hac
                  have cA : decide (A < l2) = true := decide_eq_true hlt
                  have c1 : decide ((m1 : Int) ≤ (k : Int)) = false := decide_eq_false (by omega)
                  have c2 : decide ((m2 : Int) ≤ (k : Int)) = false := decide_eq_false (by omega)
                  by_cases hcut : l2 - A < y
                  · have ez : z = l2 - A := by have := hx5.out; omega
                    clear hx5
                    subst ez
                    go_wp2_with fail
                    go_roundg (m2 - (k + 1))
                    case measure => omega
                    case rel => exact ⟨k + 1, _, by rw [hx3.out], by go_num, by omega, by omega, rfl⟩
                  · have ez : z = y := by have := hx5.out; omega
                    clear hx5
                    subst ez
                    go_wp2_with fail
                    go_roundg (m2 - (k + 1))
                    case measure => omega
                    case rel => exact ⟨k + 1, _, by rw [hx3.out], by go_num, by omega, by omega, rfl⟩
                · have hkm : k = m2 := by omega
                  subst hkm
                  have hA : psum L2 k = l2 := by rw [← HM2.out]; exact F.out.2.1.1
                  rw [hA]
                  clear hA hac hiff hxx
                  have hBE : Aside (Below w.heap.size w (w3.drewN q)) := below_drewN (below2 Z3.out.2.2.1 (Below.refl _ _)) _
                  by_cases hl20 : l2 = 0
                  · obtain ⟨rfl, rfl⟩ := Z3.out.2.2.2 (F.out.2.2.2.2.2.2 hl20)
                    have hq := eqnil27b
                    subst hl20
                    clear F
                    go_wp2_with fail
                    go_ret
                    exact ⟨rfl, hBE.out⟩
                  · have hl2g : decide (0 < l2) = true := decide_eq_true (by omega)
                    go_wp2_with fail
                    go_ret
                    exact ⟨rfl, hBE.out⟩

end Go.Proofs.Qxb6629303a.W
