import Derived.Test.Qxb6629303aWalksD
namespace Go.Proofs.Qxb6629303a.W
open Go.RowKit
set_option linter.unusedVariables false
set_option maxRecDepth 100000

theorem eqnil27 (w : World) (a : Option Addr) (n c : Nat) : (binOp .eql 27 (.slice a n c) (.slice none 0 0)).run Try.prog w = .ok (.bool a.isNone) w :=
  Lib.run_eql_slice_nil w 27 3 a n c 0 0 Try.underlying27

theorem ofL_len (s : Nat → Int) : ∀ (f k : Nat) (left : Int), (ofL s f k left).length ≤ f
  | 0, k, left => Nat.le_refl _
  | f + 1, k, left => by
    by_cases hp : 0 < left
    · rw [ofL_step s f k left hp]
      have := ofL_len s f (k + 1) (left - min (s k) left)
      simp; omega
    · rw [ofL_done s _ k left (by omega)]; simp

/-- 'bs[1:]'. -/
theorem row_tail {w : World} {g n : Nat} {N : Nat → Int} {P : Nat → Bool} (h : BRow w (some ⟨g, 0, none⟩) n N P) (hn : 2 ≤ n) : BRow w (some ⟨g, 2, none⟩) (n - 1) (fun i => N (i + 1)) (fun i => P (i + 1)) :=
  ⟨fun _ => by
    obtain ⟨b, off, e, hlt, h1, h2⟩ := h.addr (by omega)
    cases e
    exact ⟨g, 2, rfl, hlt, fun i hi => by rw [show 2 + i * 2 = 0 + (i + 1) * 2 from by omega]; exact h1 (i + 1) (by omega), fun i hi => by rw [show 2 + i * 2 + 1 = 0 + (i + 1) * 2 + 1 from by omega]; exact h2 (i + 1) (by omega)⟩⟩

set_option maxHeartbeats 400000 in
theorem lawA_big (a : Option Addr) (len cap : Nat) (total skip : Int) (w : World) (h : 65536 < len) :
    Calls Try.prog 3 #[.slice a len cap, .int .i64 total, .int .i64 skip] w fun e w' => e = .returned (.bool true) ∧ Below w.heap.size w w' := by
  by_cases h2 : len ≤ 1048576
  · go_enter Try.func3, Try.ntmps3
    go_wp2_with (go_at_call 5; refine (bytes_le _ _ _ _ _ _ h2).mono ?_; rintro e w' ⟨rfl, rfl⟩)
    go_ret
    exact ⟨rfl, Below.refl _ _⟩
  · go_enter Try.func3, Try.ntmps3
    go_wp2_with (go_at_call 5; refine (bytes_gt _ _ _ _ _ _ (by omega)).mono ?_; rintro e w' ⟨rfl, rfl⟩)
    go_ret
    exact ⟨rfl, Below.refl _ _⟩

set_option maxHeartbeats 4000000 in
theorem lawA_any (a : Option Addr) (n cap : Nat) (N : Nat → Int) (P : Nat → Bool) (total skip : Int) (w : World) (hm : n ≤ 65536) (hnil : a = none → n = 0 ∧ cap = 0) (R : BRow w a n N P) (hN : ∀ i, i < n → N i ≤ 9223372036854775807) :
    Calls Try.prog 3 #[.slice a n cap, .int .i64 total, .int .i64 skip] w fun e w' => e = .returned (.bool true) ∧ Below w.heap.size w w' := by
  have RR : Aside (BRow w a n N P ∧ (a = none → n = 0 ∧ cap = 0) ∧ (∀ i, i < n → N i ≤ 9223372036854775807)) := ⟨R, hnil, hN⟩
  clear R hnil hN
  have hb0 : decide (65536 < (n : Int)) = false := decide_eq_false (by omega)
  go_enter Try.func3, Try.ntmps3
  go_wp2_with (go_at_call 5; refine (bytes_le _ _ _ _ _ _ (by omega)).mono ?_; rintro e w' ⟨rfl, rfl⟩)
  refine (inRange_at a n cap N P total skip w hm RR.out.1).mono ?_
  rintro _ w' ⟨⟨r, rfl, hr⟩, rfl⟩
  cases r with
  | false =>
    clear hr
    go_wp2_with fail
    go_ret
    exact ⟨rfl, Below.refl _ _⟩
  | true =>
    obtain ⟨t1, t2, s1, s2, hd, heach⟩ := hr rfl
    clear hr heach
    by_cases hleft : 0 < total - skip
    · rcases Nat.eq_zero_or_pos n with hn0 | hn0
      · subst hn0
        go_wp2_with fail
        go_ret
        exact ⟨rfl, Below.refl _ _⟩
      · have hb1 : ((n : Int) == 0) = false := beq_eq_false_iff_ne.2 (by omega)
        go_wp2_with fail
        refine (build_any a n cap N P w hm RR.out.2.1 RR.out.1).mono ?_
        rintro _ w1 ⟨a1, c1, rfl, hc1, hc2, hr1, hg1, hbel1⟩
        obtain ⟨g, rfl⟩ := hg1 hn0
        have Z1 : Aside (BRow w1 (some ⟨g, 0, none⟩) n N P ∧ Below w.heap.size w w1) := ⟨hr1, hbel1⟩
        clear hr1 hbel1
        go_wp2_with fail
        refine (of_at (some ⟨g, 0, none⟩) n c1 N P total skip w1 hm Z1.out.1 (.inl hn0) t1 t2 s1 (by omega) hd RR.out.2.2).mono ?_
        intro e w2 hpost
        obtain ⟨ao, c2, rfl, hrow, hlnil, hbel2⟩ := hpost.row
        clear hpost hlnil
        have hs0 := sAt_ge n N P total 0
        have SZ : Aside (sAt n N P total 0 = szB (N 0) (P 0) total) := by show sAt n N P total 0 = _; unfold sAt; rw [Nat.zero_min]
        rw [SZ.out] at hs0
        have hs1 := szB_bd (N 0) (P 0) total (RR.out.2.2 0 hn0)
        obtain ⟨n', N', P', hcase⟩ : ∃ n' N' P', ((n = 1 ∧ n' = n ∧ N' = N ∧ P' = P) ∨ (2 ≤ n ∧ n' = n - 1 ∧ N' = (fun i => N (i + 1)) ∧ P' = (fun i => P (i + 1)))) := by
          by_cases h1 : n = 1
          · exact ⟨n, N, P, .inl ⟨h1, rfl, rfl, rfl⟩⟩
          · exact ⟨n - 1, _, _, .inr ⟨by omega, rfl, rfl, rfl⟩⟩
        obtain ⟨m0, HM⟩ : ∃ m0, Aside (min (szB (N 0) (P 0) total) (total - skip) = m0) := ⟨_, rfl⟩
        obtain ⟨L', HL'⟩ : ∃ L', Aside (ofL (sAt n' N' P' total) 65536 0 (total - (skip + m0)) = L') := ⟨_, rfl⟩
        have hL : ofL (sAt n N P total) 65536 0 (total - skip) = m0 :: L' := by
          rw [← HL'.out, ← HM.out, ← SZ.out]
          rcases hcase with ⟨h1, rfl, rfl, rfl⟩ | ⟨h2, rfl, rfl, rfl⟩
          · subst h1; exact unfold_one N' P' total skip hleft hd
          · exact unfold_two n N P total skip h2 hleft hd
        rw [hL] at hrow ⊢
        clear hL
        have hm0 : 1 ≤ m0 ∧ m0 ≤ total - skip := by rw [← HM.out]; omega
        obtain ⟨gr, rfl, hgr, hcr⟩ := hrow.addr (by simp)
        have Z2 : Aside (IRow w2 (some ⟨gr, 0, none⟩) (m0 :: L') ∧ Below w1.heap.size w1 w2) := ⟨hrow, hbel2⟩
        have HC : Aside (∀ i, i < (m0 :: L').length → w2.cell? ⟨gr, i, none⟩ = some (.int .i64 ((m0 :: L').getD i 0))) := hcr
        obtain ⟨bb, oo, ebb, hblt, hcN, hcP⟩ := (Z1.out.1.later hbel2).addr hn0
        cases ebb
        have cN := hcN 0 hn0
        have cP := hcP 0 hn0
        simp only [Nat.zero_mul, Nat.add_zero, Nat.zero_add] at cN cP
        have hcon : ∀ W : World, Calls Try.prog 9 #[.agg #[.int .i64 (N 0), .bool (P 0)], .int .i64 total] W fun e w' => e = .returned (.int .i64 (szB (N 0) (P 0) total)) ∧ Below W.heap.size W w' := fun W => of1_at _ _ _ W
        have H : Hid _ := hcon
        have HCS : Aside ((n = 1 ∧ n' = n ∧ N' = N ∧ P' = P) ∨ (2 ≤ n ∧ n' = n - 1 ∧ N' = (fun i => N (i + 1)) ∧ P' = (fun i => P (i + 1)))) := hcase
        clear hrow hbel2 hcr hcN hcP hcon hcase SZ
        generalize szB (N 0) (P 0) total = s0 at hs0 hs1 HM H
        generalize hN0 : N 0 = x0 at cN H
        generalize hP0 : P 0 = y0 at cP H
        clear hN0 hP0
        obtain ⟨l', HL2⟩ : ∃ l', Aside ((m0 :: L').length = l' + 1) := ⟨L'.length, rfl⟩
        rw [HL2.out]
        have hl' : L'.length = l' := by have := HL2.out; simpa using this
        have HLL : Aside (L'.length = l') := hl'
        have hr0 := HC.out 0 (by simp)
        have hr0' : w2.cell? ⟨gr, 0, none⟩ = some (.int .i64 m0) := hr0
        have hlb : l' ≤ 65536 := by rw [← hl', ← HL'.out]; exact ofL_len _ _ _ _
        clear hl' hr0
        go_upto_if 57 with (go_at_call 9; refine Calls.mono (H.out _) ?_; rintro _ w3 ⟨rfl, hb3⟩; have B3 : Aside (Below w2.heap.size w2 w3) := hb3; clear hb3)
        clear cN cP
        go_cut [10] (fun s wc => s = .int .i64 m0 ∧ w3 = wc)
        case first =>
          by_cases hmin : total - skip < s0
          · have e : Aside (m0 = total - skip) := by show m0 = _; rw [← HM.out]; omega
            go_wp2_with fail
            go_meet
            case rel => exact ⟨by rw [e.out], rfl⟩
          · have e : Aside (m0 = s0) := by show m0 = _; rw [← HM.out]; omega
            go_wp2_with fail
            go_meet
            case rel => exact ⟨by rw [e.out], rfl⟩
        case rest =>
          obtain ⟨rfl, rfl⟩ := hcut
          have c30 : w3.cell? ⟨gr, 0, none⟩ = some (.int .i64 m0) := cell_later B3.out hr0'
          clear hr0' hs0 hs1
          have hbm : (m0 != m0) = false := by simp
          have hb1' : decide (m0 < 1) = false := decide_eq_false (by omega)
          go_upto_if 71 with fail
          clear c30
          rcases HCS.out with ⟨h1, e2, e3, e4⟩ | ⟨h2, rfl, rfl, rfl⟩
          · subst h1
            subst e2 e3 e4
            rw [show decide ((2 : Int) ≤ ((1 : Nat) : Int)) = false from rfl]
            go_wp2_with fail
            refine (of_at (some ⟨g, 0, none⟩) 1 c1 N' P' total (skip + m0) w3 (by omega) ((Z1.out.1.later Z2.out.2).later B3.out) (.inl (by omega)) t1 t2 (by omega) (by omega) (by omega) RR.out.2.2).mono ?_
            intro e w4 hpost
            rw [HL'.out] at hpost
            obtain ⟨ao4, c4, rfl, hrow4, hlnil4, hbel4⟩ := hpost.row
            have Z4 : Aside (IRow w4 ao4 L' ∧ Below w3.heap.size w3 w4 ∧ (∀ i, i < (m0 :: L').length → w4.cell? ⟨gr, i, none⟩ = some (.int .i64 ((m0 :: L').getD i 0)))) := ⟨hrow4, hbel4, fun i hi => cell_later hbel4 (cell_later B3.out (HC.out i hi))⟩
            clear hpost hrow4 hlnil4 hbel4
            rw [HLL.out]
            go_wp2_with fail
            go_loopg [13] l' (fun g s wr => ∃ k q : Nat, s = .int .i64 k ∧ k ≤ l' ∧ l' - k ≤ g ∧ w4.drewN q = wr)
            case atStart => exact ⟨0, 0, rfl, Nat.zero_le _, by omega, rfl⟩
            case round =>
              obtain ⟨k, q, rfl, hk, hg, rfl⟩ := hrel
              by_cases hkl : k < l'
              · obtain ⟨g4, rfl, hg4, hc4⟩ := Z4.out.1.addr (by rw [HLL.out]; omega)
                have d1 := hc4 k (by rw [HLL.out]; exact hkl)
                have d2 := Z4.out.2.2 (k + 1) (by rw [HL2.out]; omega)
                have e2 : (m0 :: L').getD (k + 1) 0 = L'.getD k 0 := rfl
                rw [e2] at d2
                clear e2 hc4
                generalize L'.getD k 0 = y at d1 d2
                have hby : (y != y) = false := by simp
                go_wp2_with fail
                go_quiet (fail)
                go_wp2_with fail
                go_roundg (l' - (k + 1))
                case measure => omega
                case rel => exact ⟨k + 1, _, by go_num, by omega, by omega, rfl⟩
              · go_wp2_with fail
                go_ret
                exact ⟨rfl, below_drewN (below2 (below2 (below2 (below2 Z1.out.2 Z2.out.2) B3.out) Z4.out.2.1) (Below.refl _ _)) _⟩
          · have hb2 : decide (2 ≤ (n : Int)) = true := decide_eq_true (by omega)
            go_wp2_with fail
            refine (of_at (some ⟨g, 2, none⟩) (n - 1) (c1 - 1) (fun i => N (i + 1)) (fun i => P (i + 1)) total (skip + m0) w3 (by omega) (row_tail ((Z1.out.1.later Z2.out.2).later B3.out) h2) (.inl (by omega)) t1 t2 (by omega) (by omega) (by omega) (fun i hi => RR.out.2.2 (i + 1) (by omega))).mono ?_
            intro e w4 hpost
            rw [HL'.out] at hpost
            obtain ⟨ao4, c4, rfl, hrow4, hlnil4, hbel4⟩ := hpost.row
            have Z4 : Aside (IRow w4 ao4 L' ∧ Below w3.heap.size w3 w4 ∧ (∀ i, i < (m0 :: L').length → w4.cell? ⟨gr, i, none⟩ = some (.int .i64 ((m0 :: L').getD i 0)))) := ⟨hrow4, hbel4, fun i hi => cell_later hbel4 (cell_later B3.out (HC.out i hi))⟩
            clear hpost hrow4 hlnil4 hbel4
            rw [HLL.out]
            go_wp2_with fail
            go_loopg [13] l' (fun g s wr => ∃ k q : Nat, s = .int .i64 k ∧ k ≤ l' ∧ l' - k ≤ g ∧ w4.drewN q = wr)
            case atStart => exact ⟨0, 0, rfl, Nat.zero_le _, by omega, rfl⟩
            case round =>
              obtain ⟨k, q, rfl, hk, hg, rfl⟩ := hrel
              by_cases hkl : k < l'
              · obtain ⟨g4, rfl, hg4, hc4⟩ := Z4.out.1.addr (by rw [HLL.out]; omega)
                have d1 := hc4 k (by rw [HLL.out]; exact hkl)
                have d2 := Z4.out.2.2 (k + 1) (by rw [HL2.out]; omega)
                have e2 : (m0 :: L').getD (k + 1) 0 = L'.getD k 0 := rfl
                rw [e2] at d2
                clear e2 hc4
                generalize L'.getD k 0 = y at d1 d2
                have hby : (y != y) = false := by simp
                go_wp2_with fail
                go_quiet (fail)
                go_wp2_with fail
                go_roundg (l' - (k + 1))
                case measure => omega
                case rel => exact ⟨k + 1, _, by go_num, by omega, by omega, rfl⟩
              · go_wp2_with fail
                go_ret
                exact ⟨rfl, below_drewN (below2 (below2 (below2 (below2 Z1.out.2 Z2.out.2) B3.out) Z4.out.2.1) (Below.refl _ _)) _⟩
    · rcases Nat.eq_zero_or_pos n with hn0 | hn0
      · subst hn0
        go_wp2_with fail
        refine (build_any a 0 cap N P w hm (fun h => ⟨rfl, (RR.out.2.1 h).2⟩) RR.out.1).mono ?_
        rintro _ w1 ⟨a1, c1, rfl, hc1, hc2, hr1, hg1, hbel1⟩
        have Z1 : Aside (BRow w1 a1 0 N P ∧ Below w.heap.size w w1) := ⟨hr1, hbel1⟩
        clear hr1 hbel1 hg1
        go_wp2_with fail
        refine (of_at a1 0 c1 N P total skip w1 hm Z1.out.1 (.inr (by omega)) t1 t2 s1 (by omega) hd RR.out.2.2).mono ?_
        intro e w2 hpost
        rw [ofL_done _ _ _ _ (by omega)] at hpost
        obtain ⟨ao, c2, rfl, hrow, hlnil, hbel2⟩ := hpost.row
        obtain ⟨rfl, rfl⟩ := hlnil rfl
        have Z2 : Aside (Below w1.heap.size w1 w2) := hbel2
        have hq := eqnil27
        clear hpost hrow hlnil hbel2
        go_wp2_with fail
        go_ret
        exact ⟨rfl, below2 Z1.out.2 Z2.out⟩

      · have hb1 : ((n : Int) == 0) = false := beq_eq_false_iff_ne.2 (by omega)
        go_wp2_with fail
        refine (build_any a n cap N P w hm RR.out.2.1 RR.out.1).mono ?_
        rintro _ w1 ⟨a1, c1, rfl, hc1, hc2, hr1, hg1, hbel1⟩
        have Z1 : Aside (BRow w1 a1 n N P ∧ Below w.heap.size w w1) := ⟨hr1, hbel1⟩
        clear hr1 hbel1 hg1
        go_wp2_with fail
        refine (of_at a1 n c1 N P total skip w1 hm Z1.out.1 (.inr (by omega)) t1 t2 s1 (by omega) hd RR.out.2.2).mono ?_
        intro e w2 hpost
        rw [ofL_done _ _ _ _ (by omega)] at hpost
        obtain ⟨ao, c2, rfl, hrow, hlnil, hbel2⟩ := hpost.row
        obtain ⟨rfl, rfl⟩ := hlnil rfl
        have Z2 : Aside (Below w1.heap.size w1 w2) := hbel2
        have hq := eqnil27
        clear hpost hrow hlnil hbel2
        go_wp2_with fail
        go_ret
        exact ⟨rfl, below2 Z1.out.2 Z2.out⟩

end Go.Proofs.Qxb6629303a.W
