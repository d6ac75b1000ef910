import Derived.Test.Qxb6629184aWalksE
namespace Go.Proofs.Qxb6629184a.W
open Go.RowKit
set_option linter.unusedVariables false
set_option maxRecDepth 100000

theorem mkN (n : Nat) (hm : n ≤ 65536) (w : World) : (Instr.makeSlice 22 (.int .i64 ((n : Int) + 1)) (.int .i64 ((n : Int) + 1))).run Try.prog w = .ok (.slice (some ⟨w.heap.size, 0, none⟩) (n + 1) (n + 1)) (w.alloc (.cells (madeCells #[.int .i32 0] (n + 1)) 21)) := by
  have h := run_make_row' (P := Try.prog) 22 21 (.int .i32 0) 4 Try.underlying22 info21 rfl .i64 .i64 (n + 1) (by omega) (by omega) w
  have e : ((n + 1 : Nat) : Int) = (n : Int) + 1 := by omega
  rw [e] at h
  exact h

set_option maxHeartbeats 4000000 in
theorem lawB_pos (b off n cap : Nat) (f : Nat → Int) (d e : Int) (w : World) (hn : 0 < n) (hm : n ≤ 65536) (hb : b < w.heap.size)
    (hc : ∀ j, j < n → w.cell? ⟨b, off + j, none⟩ = some (.int .i32 (f j))) :
    Calls Try.prog 4 #[.slice (some ⟨b, off, none⟩) n cap, .int .i32 e, .int .i32 d] w fun e w' => e = .returned (.bool true) ∧ Below w.heap.size w w' := by
  go_enter Try.func4, Try.ntmps4
  go_wp2_with (go_at_call 10; refine (bytes2_le _ _ _ _ _ _ (by omega)).mono ?_; rintro _ w' ⟨rfl, rfl⟩)
  refine (asc_any b off n cap f _ hn hm hc).mono ?_
  rintro _ w' ⟨⟨r, rfl, hr⟩, q, rfl⟩
  cases r with
  | false =>
    clear hr hc
    go_wp2
    go_ret
    exact ⟨rfl, below_drewN (Below.refl _ _) _⟩
  | true =>
    have A : Aside (Asc f n) := asc_of f n (hr rfl)
    clear hr
    have hbW : Aside (Below w.heap.size w (w.drewN q)) := below_drewN (Below.refl _ _) _
    generalize w.drewN q = W at *
    have hcW : ∀ j, j < n → W.cell? ⟨b, off + j, none⟩ = some (.int .i32 (f j)) := fun j hj => (hbW.out.cell hb).trans (hc j hj)
    have HC : Aside (∀ j, j < n → w.cell? ⟨b, off + j, none⟩ = some (.int .i32 (f j))) := hc
    clear hc
    go_wp2
    go_loopg [7] n (fun g s wr => ∃ k : Nat, s = .int .i64 k ∧ k ≤ n ∧ n - k ≤ g ∧ W = wr ∧ ∀ t, t < k → f t < e)
    case atStart => exact ⟨0, rfl, Nat.zero_le _, by omega, rfl, fun t ht => absurd ht (Nat.not_lt_zero _)⟩
    case round =>
      obtain ⟨p, rfl, hp, hg, rfl, hlo⟩ := hrel
      have L : Aside (∀ t, t < p → f t < e) := hlo
      clear hlo
      by_cases hcnd : p < n ∧ f p < e
      · obtain ⟨hlt, hfd⟩ := hcnd
        have c0 := hcW p hlt
        clear hcW
        go_wp2
        go_roundg (n - (p + 1))
        case measure => omega
        case rel =>
          refine ⟨p + 1, by go_num, by omega, by omega, rfl, fun t ht => ?_⟩
          by_cases e : t = p
          · subst e; exact hfd
          · exact L.out t (by omega)
      · have hge : p < n → e ≤ f p := fun h => by
          apply Classical.byContradiction
          intro hh
          exact hcnd ⟨h, by omega⟩
        clear hcnd
        obtain ⟨k1, hk1⟩ := parts_ex f d n A.out
        by_cases hpres : p < n ∧ f p = e
        · obtain ⟨hlt, hfe⟩ := hpres
          have c0 : W.cell? ⟨b, off + p, none⟩ = some (.int .i32 e) := by rw [← hfe]; exact hcW p hlt
          have K1 : Aside (PartsAt f n d k1) := hk1
          obtain ⟨k2, K2⟩ : ∃ k2, Aside (PartsAt f n d k2) := ⟨k1, hk1⟩
          have ek : k1 = k2 := parts_uniq K1.out K2.out
          have WT : Aside (Want f n k1 d e f n k2) := by rw [← ek]; exact want_same hk1 hlt hfe A.out
          have AM := A
          have hrD : Aside (Row W (some ⟨b, off, none⟩) n cap f) := .inr ⟨hn, _, _, rfl, Nat.lt_of_lt_of_le hb hbW.out.size, hcW⟩
          have hrM := hrD
          clear hk1 hcW hge hfe ek
          go_wp2_with fail
          refine (toDates_gen (some ⟨b, off, none⟩) n cap f W hrD.out (by omega)).mono ?_
          rintro _ w1 ⟨a1, rfl, hr1, hb1⟩
          have X1 : Aside (Row w1 a1 n n f ∧ Below W.heap.size W w1) := ⟨hr1, hb1⟩
          clear hr1 hb1
          go_wp2_with (go_at_call 7; refine (newCal _ _ ⟨_, _, _, rfl⟩).mono ?_; rintro _ w' ⟨rfl, rfl⟩)
          refine (toDates_gen (some ⟨b, off, none⟩) n cap f (w1.alloc (.cells #[.slice a1 n n] 34)) ((hrM.out.later X1.out.2).later ((Below.refl _ _).alloc (Nat.le_refl _) _)) (by omega)).mono ?_
          rintro _ w3 ⟨a2, rfl, hr3, hb3⟩
          have X3 : Aside (Two w (w3.alloc (.cells #[.slice a2 n n] 34)) w1.heap.size w3.heap.size a1 a2 n n f f) := two_of X1.out.1 (hbW.out.trans (X1.out.2.mono hbW.out.size)) hr3 hb3
          clear hr3 hb3 X1
          go_wp2_with (go_at_call 7; refine (newCal _ _ ⟨_, _, _, rfl⟩).mono ?_; rintro _ w' ⟨rfl, rfl⟩)
          generalize w3.alloc (.cells #[.slice a2 n n] 34) = W4 at *
          generalize w1.heap.size = D1 at *
          generalize w3.heap.size = D2 at *
          have hcl : W4.cell? ⟨b, off + (n - 1), none⟩ = some (.int .i32 (f (n - 1))) := (X3.out.bel.cell hb).trans (HC.out (n - 1) (by omega))
          generalize hz : f (n - 1) = z at hcl
          have Z : Aside (f (n - 1) = z) := hz
          clear hz
          obtain ⟨v1, o1, v2, o2, g1, g2, hres⟩ := five K1.out K2.out WT.out
          have G1 : Aside ((k1 < n ∧ v1 = f k1 ∧ o1 = true) ∨ (k1 = n ∧ v1 = 0 ∧ o1 = false)) := g1
          have G2 : Aside ((k2 < n ∧ v2 = f k2 ∧ o2 = true) ∨ (k2 = n ∧ v2 = 0 ∧ o2 = false)) := g2
          clear g1 g2
          rcases hres with ⟨rfl, rfl, rfl, hn0, hl, hx1, hx2, hx3⟩ | ⟨rfl, rfl, rfl, hn0, hl, hx1, hx2⟩ | ⟨rfl, rfl, rfl, hn0, hl, hx1, hx2, hx3⟩ | ⟨rfl, rfl, rfl, rfl, hl, hx1⟩ | ⟨rfl, rfl, rfl, rfl, hl, hx1⟩
          · rw [Z.out] at hl
            refine (next_gen D1 n k1 a1 f d v1 true W4 (by omega) X3.out.cal1 X3.out.row1 A.out K1.out (by have := G1.out; simpa using this)).mono ?_
            rintro _ w5 ⟨rfl, q1, rfl⟩
            go_wp2_with fail
            refine (next_gen D2 n k2 a2 f d e true (W4.drewN q1) (by omega) X3.out.cal2 X3.out.row2 AM.out K2.out (by have := G2.out; simpa using this)).mono ?_
            rintro _ w6 ⟨rfl, q2, rfl⟩
            go_wp2
            go_ret
            exact ⟨by simp, below_drewN X3.out.bel _⟩
          · rw [Z.out] at hl
            refine (next_gen D1 n k1 a1 f d v1 true W4 (by omega) X3.out.cal1 X3.out.row1 A.out K1.out (by have := G1.out; simpa using this)).mono ?_
            rintro _ w5 ⟨rfl, q1, rfl⟩
            go_wp2_with fail
            refine (next_gen D2 n k2 a2 f d v1 true (W4.drewN q1) (by omega) X3.out.cal2 X3.out.row2 AM.out K2.out (by have := G2.out; simpa using this)).mono ?_
            rintro _ w6 ⟨rfl, q2, rfl⟩
            go_wp2
            go_ret
            exact ⟨by simp, below_drewN X3.out.bel _⟩
          · rw [Z.out] at hl
            refine (next_gen D1 n k1 a1 f d v1 true W4 (by omega) X3.out.cal1 X3.out.row1 A.out K1.out (by have := G1.out; simpa using this)).mono ?_
            rintro _ w5 ⟨rfl, q1, rfl⟩
            go_wp2_with fail
            refine (next_gen D2 n k2 a2 f d v1 true (W4.drewN q1) (by omega) X3.out.cal2 X3.out.row2 AM.out K2.out (by have := G2.out; simpa using this)).mono ?_
            rintro _ w6 ⟨rfl, q2, rfl⟩
            go_wp2
            go_ret
            exact ⟨by simp, below_drewN X3.out.bel _⟩
          · have hl2 := hl hn
            rw [Z.out] at hl2
            clear hl
            refine (next_gen D1 n k1 a1 f d 0 false W4 (by omega) X3.out.cal1 X3.out.row1 A.out K1.out (by have := G1.out; simpa using this)).mono ?_
            rintro _ w5 ⟨rfl, q1, rfl⟩
            go_wp2_with fail
            refine (next_gen D2 n k2 a2 f d e true (W4.drewN q1) (by omega) X3.out.cal2 X3.out.row2 AM.out K2.out (by have := G2.out; simpa using this)).mono ?_
            rintro _ w6 ⟨rfl, q2, rfl⟩
            go_wp2
            go_ret
            exact ⟨by simp, below_drewN X3.out.bel _⟩
          · have hl2 := hl hn
            rw [Z.out] at hl2
            clear hl
            refine (next_gen D1 n k1 a1 f d 0 false W4 (by omega) X3.out.cal1 X3.out.row1 A.out K1.out (by have := G1.out; simpa using this)).mono ?_
            rintro _ w5 ⟨rfl, q1, rfl⟩
            go_wp2_with fail
            refine (next_gen D2 n k2 a2 f d 0 false (W4.drewN q1) (by omega) X3.out.cal2 X3.out.row2 AM.out K2.out (by have := G2.out; simpa using this)).mono ?_
            rintro _ w6 ⟨rfl, q2, rfl⟩
            go_wp2
            go_ret
            exact ⟨by simp, below_drewN X3.out.bel _⟩

        · have hgt : ∀ t, p ≤ t → t < n → e < f t := fun t h1 h2 => by
            have hep : e < f p := by
              have := hge (by omega)
              have : f p ≠ e := fun hh => hpres ⟨by omega, hh⟩
              omega
            by_cases et : t = p
            · subst et; exact hep
            · have := A.out p t (by omega) h2
              omega
          obtain ⟨k2, hk2, hwt⟩ := want_ins hk1 hp L.out hgt
          have AM : Aside (Asc (ins f p e) (n + 1)) := ins_asc A.out hp L.out hgt
          have K1 : Aside (PartsAt f n d k1) := hk1
          have K2 : Aside (PartsAt (ins f p e) (n + 1) d k2) := hk2
          have WT : Aside (Want f n k1 d e (ins f p e) (n + 1) k2) := hwt
          clear hk1 hk2 hwt hpres hge
          have hmk := mkN n hm
          have hne : p < n → (f p == e) = false := fun h => by
            have := hgt p (Nat.le_refl _) h
            exact beq_eq_false_iff_ne.2 (by omega)
          have hpn : p < n → e < f p := fun h => hgt p (Nat.le_refl _) h
          clear hgt
          have HM : Aside (∀ j, j < n → W.cell? ⟨b, off + j, none⟩ = some (.int .i32 (f j))) := hcW
          clear hcW
          by_cases hlt : p < n
          · have c0 := HM.out p hlt
            have hne' := hne hlt
            have hpn' := hpn hlt
            clear hne hpn
            generalize f p = y at c0 hne' hpn'
            go_wp2
            clear c0 hne' hpn'
            have hrow0 : Aside ((W.alloc (.cells (madeCells #[.int .i32 0] (n + 1)) 21)).rowIs W.heap.size 21 (n + 1) (fun _ => .int .i32 0)) := World.rowIs_made W (.int .i32 0) (n + 1) 21
            have hbel0 : Aside (Below W.heap.size W (W.alloc (.cells (madeCells #[.int .i32 0] (n + 1)) 21))) := (Below.refl _ _).alloc (Nat.le_refl _) _
            have hbW' : b < W.heap.size := Nat.lt_of_lt_of_le hb hbW.out.size
            clear hmk
            generalize W.alloc (.cells (madeCells #[.int .i32 0] (n + 1)) 21) = W0 at *
            generalize hB : W.heap.size = B at *
            have HB : Aside (W.heap.size = B) := hB
            clear hB
            go_loopg [10] p (fun g s wr => ∃ k : Nat, s = .int .i64 k ∧ k ≤ p ∧ p - k ≤ g ∧ wr.rowIs B 21 (n + 1) (fun j => if j < k then .int .i32 (f j) else .int .i32 0) ∧ Below B W wr)
            case atStart => exact ⟨0, rfl, Nat.zero_le _, by omega, hrow0.out.congr (fun i hi => by simp), hbel0.out⟩
            case round =>
              obtain ⟨k, rfl, hk, hg, hrow, hbel⟩ := hrel
              by_cases hkp : k < p
              · have c0 : wr.cell? ⟨b, off + k, none⟩ = some (.int .i32 (f k)) := (hbel.cell hbW').trans (HM.out k (by omega))
                obtain ⟨v, hv⟩ : ∃ v, wr.cell? ⟨B, k, none⟩ = some v := ⟨_, hrow.cell (by omega)⟩
                have hfz : wr.frozen? ⟨B, k, none⟩ = false := hrow.frozen k
                have R : Aside (wr.rowIs B 21 (n + 1) (fun j => if j < k then .int .i32 (f j) else .int .i32 0) ∧ Below B W wr) := ⟨hrow, hbel⟩
                clear hrow hbel
                go_wp2
                go_roundg (p - (k + 1))
                case measure => omega
                case rel =>
                  obtain ⟨hrow, hbel⟩ := R.out
                  refine ⟨k + 1, by go_num, by omega, by omega, (hrow.set k (.int .i32 (f k))).congr (fun i hi => ?_), hbel.setCell (Nat.le_refl _) _⟩
                  by_cases ei : i = k
                  · subst ei; simp
                  · by_cases e2 : i < k
                    · rw [if_neg ei, if_pos e2, if_pos (by omega)]
                    · rw [if_neg ei, if_neg e2, if_neg (by omega)]
              · obtain ⟨v, hv⟩ : ∃ v, wr.cell? ⟨B, p, none⟩ = some v := ⟨_, hrow.cell (by omega)⟩
                have hfz : wr.frozen? ⟨B, p, none⟩ = false := hrow.frozen p
                have R : Aside ((wr.setCell ⟨B, p, none⟩ (.int .i32 e)).rowIs B 21 (n + 1) (fun j => if j < p + 1 then .int .i32 (ins f p e j) else .int .i32 0) ∧ Below B W (wr.setCell ⟨B, p, none⟩ (.int .i32 e))) := by
                  refine ⟨(hrow.set p (.int .i32 e)).congr (fun i hi => ?_), hbel.setCell (Nat.le_refl _) _⟩
                  have : k = p := by omega
                  subst this
                  rcases Nat.lt_trichotomy i k with x | x | x
                  · rw [if_neg (by omega), if_pos x, if_pos (by omega), ins_lt x]
                  · subst x; rw [if_pos rfl, if_pos (by omega), ins_eq]
                  · rw [if_neg (by omega), if_neg (by omega), if_neg (by omega)]
                clear hrow hbel hrow0 hbel0
                go_wp2
                generalize wr.setCell ⟨B, p, none⟩ (.int .i32 e) = W1 at *
                clear hv hfz
                go_loopg [11] n (fun g s wr => ∃ k : Nat, s = .int .i64 k ∧ p ≤ k ∧ k ≤ n ∧ n - k ≤ g ∧ wr.rowIs B 21 (n + 1) (fun j => if j < k + 1 then .int .i32 (ins f p e j) else .int .i32 0) ∧ Below B W wr)
                case atStart => exact ⟨p, rfl, Nat.le_refl _, hp, by omega, R.out.1, R.out.2⟩
                case round =>
                  obtain ⟨k, rfl, hpk, hk, hg, hrow, hbel⟩ := hrel
                  clear R
                  by_cases hkn : k < n
                  · have c0 : wr.cell? ⟨b, off + k, none⟩ = some (.int .i32 (f k)) := (hbel.cell hbW').trans (HM.out k hkn)
                    obtain ⟨v, hv⟩ : ∃ v, wr.cell? ⟨B, k + 1, none⟩ = some v := ⟨_, hrow.cell (by omega)⟩
                    have hfz : wr.frozen? ⟨B, k + 1, none⟩ = false := hrow.frozen (k + 1)
                    have R : Aside (wr.rowIs B 21 (n + 1) (fun j => if j < k + 1 then .int .i32 (ins f p e j) else .int .i32 0) ∧ Below B W wr) := ⟨hrow, hbel⟩
                    clear hrow hbel
                    go_wp2
                    go_roundg (n - (k + 1))
                    case measure => omega
                    case rel =>
                      obtain ⟨hrow, hbel⟩ := R.out
                      refine ⟨k + 1, by go_num, by omega, by omega, by omega, (hrow.set (k + 1) (.int .i32 (f k))).congr (fun i hi => ?_), hbel.setCell (Nat.le_refl _) _⟩
                      by_cases ei : i = k + 1
                      · subst ei; rw [if_pos rfl, if_pos (by omega), ins_gt (by omega)]; rfl
                      · by_cases e2 : i < k + 1
                        · rw [if_neg ei, if_pos e2, if_pos (by omega)]
                        · rw [if_neg ei, if_neg e2, if_neg (by omega)]
                  · have hkn' : k = n := by omega
                    subst hkn'
                    have hrD : Aside (Row wr (some ⟨b, off, none⟩) k cap f) := .inr ⟨hn, _, _, rfl, Nat.lt_of_lt_of_le hbW' (by have := hrow.lt; omega), fun j hj => (hbel.cell hbW').trans (HM.out j hj)⟩
                    have hrM : Aside (Row wr (some ⟨B, 0, none⟩) (k + 1) (k + 1) (ins f p e)) := .inr ⟨by omega, _, _, rfl, hrow.lt, fun j hj => by rw [Nat.zero_add, hrow.cell hj, if_pos hj]⟩
                    have hbW2 : Aside (Below w.heap.size w wr) := hbW.out.trans (hbel.mono (by have := hbW.out.size; rw [HB.out] at this; exact this))
                    clear hrow hbel hbW
                    have hbW := hbW2
                    clear hbW2
                    go_wp2_with fail
                    refine (toDates_gen (some ⟨b, off, none⟩) k cap f wr hrD.out (by omega)).mono ?_
                    rintro _ w1 ⟨a1, rfl, hr1, hb1⟩
                    have X1 : Aside (Row w1 a1 k k f ∧ Below wr.heap.size wr w1) := ⟨hr1, hb1⟩
                    clear hr1 hb1
                    go_wp2_with (go_at_call 7; refine (newCal _ _ ⟨_, _, _, rfl⟩).mono ?_; rintro _ w' ⟨rfl, rfl⟩)
                    refine (toDates_gen (some ⟨B, 0, none⟩) (k + 1) (k + 1) (ins f p e) (w1.alloc (.cells #[.slice a1 k k] 34)) ((hrM.out.later X1.out.2).later ((Below.refl _ _).alloc (Nat.le_refl _) _)) (by omega)).mono ?_
                    rintro _ w3 ⟨a2, rfl, hr3, hb3⟩
                    have X3 : Aside (Two w (w3.alloc (.cells #[.slice a2 (k + 1) (k + 1)] 34)) w1.heap.size w3.heap.size a1 a2 k (k + 1) f (ins f p e)) := two_of X1.out.1 (hbW.out.trans (X1.out.2.mono hbW.out.size)) hr3 hb3
                    clear hr3 hb3 X1
                    go_wp2_with (go_at_call 7; refine (newCal _ _ ⟨_, _, _, rfl⟩).mono ?_; rintro _ w' ⟨rfl, rfl⟩)
                    generalize w3.alloc (.cells #[.slice a2 (k + 1) (k + 1)] 34) = W4 at *
                    generalize w1.heap.size = D1 at *
                    generalize w3.heap.size = D2 at *
                    have hcl : W4.cell? ⟨b, off + (k - 1), none⟩ = some (.int .i32 (f (k - 1))) := (X3.out.bel.cell hb).trans (HC.out (k - 1) (by omega))
                    generalize hz : f (k - 1) = z at hcl
                    have Z : Aside (f (k - 1) = z) := hz
                    clear hz
                    obtain ⟨v1, o1, v2, o2, g1, g2, hres⟩ := five K1.out K2.out WT.out
                    have G1 : Aside ((k1 < k ∧ v1 = f k1 ∧ o1 = true) ∨ (k1 = k ∧ v1 = 0 ∧ o1 = false)) := g1
                    have G2 : Aside ((k2 < (k + 1) ∧ v2 = (ins f p e) k2 ∧ o2 = true) ∨ (k2 = (k + 1) ∧ v2 = 0 ∧ o2 = false)) := g2
                    clear g1 g2
                    rcases hres with ⟨rfl, rfl, rfl, hn0, hl, hx1, hx2, hx3⟩ | ⟨rfl, rfl, rfl, hn0, hl, hx1, hx2⟩ | ⟨rfl, rfl, rfl, hn0, hl, hx1, hx2, hx3⟩ | ⟨rfl, rfl, rfl, rfl, hl, hx1⟩ | ⟨rfl, rfl, rfl, rfl, hl, hx1⟩
                    · rw [Z.out] at hl
                      refine (next_gen D1 k k1 a1 f d v1 true W4 (by omega) X3.out.cal1 X3.out.row1 A.out K1.out (by have := G1.out; simpa using this)).mono ?_
                      rintro _ w5 ⟨rfl, q1, rfl⟩
                      go_wp2_with fail
                      refine (next_gen D2 (k + 1) k2 a2 (ins f p e) d e true (W4.drewN q1) (by omega) X3.out.cal2 X3.out.row2 AM.out K2.out (by have := G2.out; simpa using this)).mono ?_
                      rintro _ w6 ⟨rfl, q2, rfl⟩
                      go_wp2
                      go_ret
                      exact ⟨by simp, below_drewN X3.out.bel _⟩
                    · rw [Z.out] at hl
                      refine (next_gen D1 k k1 a1 f d v1 true W4 (by omega) X3.out.cal1 X3.out.row1 A.out K1.out (by have := G1.out; simpa using this)).mono ?_
                      rintro _ w5 ⟨rfl, q1, rfl⟩
                      go_wp2_with fail
                      refine (next_gen D2 (k + 1) k2 a2 (ins f p e) d v1 true (W4.drewN q1) (by omega) X3.out.cal2 X3.out.row2 AM.out K2.out (by have := G2.out; simpa using this)).mono ?_
                      rintro _ w6 ⟨rfl, q2, rfl⟩
                      go_wp2
                      go_ret
                      exact ⟨by simp, below_drewN X3.out.bel _⟩
                    · rw [Z.out] at hl
                      refine (next_gen D1 k k1 a1 f d v1 true W4 (by omega) X3.out.cal1 X3.out.row1 A.out K1.out (by have := G1.out; simpa using this)).mono ?_
                      rintro _ w5 ⟨rfl, q1, rfl⟩
                      go_wp2_with fail
                      refine (next_gen D2 (k + 1) k2 a2 (ins f p e) d v1 true (W4.drewN q1) (by omega) X3.out.cal2 X3.out.row2 AM.out K2.out (by have := G2.out; simpa using this)).mono ?_
                      rintro _ w6 ⟨rfl, q2, rfl⟩
                      go_wp2
                      go_ret
                      exact ⟨by simp, below_drewN X3.out.bel _⟩
                    · have hl2 := hl hn
                      rw [Z.out] at hl2
                      clear hl
                      refine (next_gen D1 k k1 a1 f d 0 false W4 (by omega) X3.out.cal1 X3.out.row1 A.out K1.out (by have := G1.out; simpa using this)).mono ?_
                      rintro _ w5 ⟨rfl, q1, rfl⟩
                      go_wp2_with fail
                      refine (next_gen D2 (k + 1) k2 a2 (ins f p e) d e true (W4.drewN q1) (by omega) X3.out.cal2 X3.out.row2 AM.out K2.out (by have := G2.out; simpa using this)).mono ?_
                      rintro _ w6 ⟨rfl, q2, rfl⟩
                      go_wp2
                      go_ret
                      exact ⟨by simp, below_drewN X3.out.bel _⟩
                    · have hl2 := hl hn
                      rw [Z.out] at hl2
                      clear hl
                      refine (next_gen D1 k k1 a1 f d 0 false W4 (by omega) X3.out.cal1 X3.out.row1 A.out K1.out (by have := G1.out; simpa using this)).mono ?_
                      rintro _ w5 ⟨rfl, q1, rfl⟩
                      go_wp2_with fail
                      refine (next_gen D2 (k + 1) k2 a2 (ins f p e) d 0 false (W4.drewN q1) (by omega) X3.out.cal2 X3.out.row2 AM.out K2.out (by have := G2.out; simpa using this)).mono ?_
                      rintro _ w6 ⟨rfl, q2, rfl⟩
                      go_wp2
                      go_ret
                      exact ⟨by simp, below_drewN X3.out.bel _⟩


          · clear hne hpn
            go_wp2
            have hrow0 : Aside ((W.alloc (.cells (madeCells #[.int .i32 0] (n + 1)) 21)).rowIs W.heap.size 21 (n + 1) (fun _ => .int .i32 0)) := World.rowIs_made W (.int .i32 0) (n + 1) 21
            have hbel0 : Aside (Below W.heap.size W (W.alloc (.cells (madeCells #[.int .i32 0] (n + 1)) 21))) := (Below.refl _ _).alloc (Nat.le_refl _) _
            have hbW' : b < W.heap.size := Nat.lt_of_lt_of_le hb hbW.out.size
            clear hmk
            generalize W.alloc (.cells (madeCells #[.int .i32 0] (n + 1)) 21) = W0 at *
            generalize hB : W.heap.size = B at *
            have HB : Aside (W.heap.size = B) := hB
            clear hB
            go_loopg [10] p (fun g s wr => ∃ k : Nat, s = .int .i64 k ∧ k ≤ p ∧ p - k ≤ g ∧ wr.rowIs B 21 (n + 1) (fun j => if j < k then .int .i32 (f j) else .int .i32 0) ∧ Below B W wr)
            case atStart => exact ⟨0, rfl, Nat.zero_le _, by omega, hrow0.out.congr (fun i hi => by simp), hbel0.out⟩
            case round =>
              obtain ⟨k, rfl, hk, hg, hrow, hbel⟩ := hrel
              by_cases hkp : k < p
              · have c0 : wr.cell? ⟨b, off + k, none⟩ = some (.int .i32 (f k)) := (hbel.cell hbW').trans (HM.out k (by omega))
                obtain ⟨v, hv⟩ : ∃ v, wr.cell? ⟨B, k, none⟩ = some v := ⟨_, hrow.cell (by omega)⟩
                have hfz : wr.frozen? ⟨B, k, none⟩ = false := hrow.frozen k
                have R : Aside (wr.rowIs B 21 (n + 1) (fun j => if j < k then .int .i32 (f j) else .int .i32 0) ∧ Below B W wr) := ⟨hrow, hbel⟩
                clear hrow hbel
                go_wp2
                go_roundg (p - (k + 1))
                case measure => omega
                case rel =>
                  obtain ⟨hrow, hbel⟩ := R.out
                  refine ⟨k + 1, by go_num, by omega, by omega, (hrow.set k (.int .i32 (f k))).congr (fun i hi => ?_), hbel.setCell (Nat.le_refl _) _⟩
                  by_cases ei : i = k
                  · subst ei; simp
                  · by_cases e2 : i < k
                    · rw [if_neg ei, if_pos e2, if_pos (by omega)]
                    · rw [if_neg ei, if_neg e2, if_neg (by omega)]
              · obtain ⟨v, hv⟩ : ∃ v, wr.cell? ⟨B, p, none⟩ = some v := ⟨_, hrow.cell (by omega)⟩
                have hfz : wr.frozen? ⟨B, p, none⟩ = false := hrow.frozen p
                have R : Aside ((wr.setCell ⟨B, p, none⟩ (.int .i32 e)).rowIs B 21 (n + 1) (fun j => if j < p + 1 then .int .i32 (ins f p e j) else .int .i32 0) ∧ Below B W (wr.setCell ⟨B, p, none⟩ (.int .i32 e))) := by
                  refine ⟨(hrow.set p (.int .i32 e)).congr (fun i hi => ?_), hbel.setCell (Nat.le_refl _) _⟩
                  have : k = p := by omega
                  subst this
                  rcases Nat.lt_trichotomy i k with x | x | x
                  · rw [if_neg (by omega), if_pos x, if_pos (by omega), ins_lt x]
                  · subst x; rw [if_pos rfl, if_pos (by omega), ins_eq]
                  · rw [if_neg (by omega), if_neg (by omega), if_neg (by omega)]
                clear hrow hbel hrow0 hbel0
                go_wp2
                generalize wr.setCell ⟨B, p, none⟩ (.int .i32 e) = W1 at *
                clear hv hfz
                go_loopg [11] n (fun g s wr => ∃ k : Nat, s = .int .i64 k ∧ p ≤ k ∧ k ≤ n ∧ n - k ≤ g ∧ wr.rowIs B 21 (n + 1) (fun j => if j < k + 1 then .int .i32 (ins f p e j) else .int .i32 0) ∧ Below B W wr)
                case atStart => exact ⟨p, rfl, Nat.le_refl _, hp, by omega, R.out.1, R.out.2⟩
                case round =>
                  obtain ⟨k, rfl, hpk, hk, hg, hrow, hbel⟩ := hrel
                  clear R
                  by_cases hkn : k < n
                  · exfalso; omega
                  · have hkn' : k = n := by omega
                    subst hkn'
                    have hrD : Aside (Row wr (some ⟨b, off, none⟩) k cap f) := .inr ⟨hn, _, _, rfl, Nat.lt_of_lt_of_le hbW' (by have := hrow.lt; omega), fun j hj => (hbel.cell hbW').trans (HM.out j hj)⟩
                    have hrM : Aside (Row wr (some ⟨B, 0, none⟩) (k + 1) (k + 1) (ins f p e)) := .inr ⟨by omega, _, _, rfl, hrow.lt, fun j hj => by rw [Nat.zero_add, hrow.cell hj, if_pos hj]⟩
                    have hbW2 : Aside (Below w.heap.size w wr) := hbW.out.trans (hbel.mono (by have := hbW.out.size; rw [HB.out] at this; exact this))
                    clear hrow hbel hbW
                    have hbW := hbW2
                    clear hbW2
                    go_wp2_with fail
                    refine (toDates_gen (some ⟨b, off, none⟩) k cap f wr hrD.out (by omega)).mono ?_
                    rintro _ w1 ⟨a1, rfl, hr1, hb1⟩
                    have X1 : Aside (Row w1 a1 k k f ∧ Below wr.heap.size wr w1) := ⟨hr1, hb1⟩
                    clear hr1 hb1
                    go_wp2_with (go_at_call 7; refine (newCal _ _ ⟨_, _, _, rfl⟩).mono ?_; rintro _ w' ⟨rfl, rfl⟩)
                    refine (toDates_gen (some ⟨B, 0, none⟩) (k + 1) (k + 1) (ins f p e) (w1.alloc (.cells #[.slice a1 k k] 34)) ((hrM.out.later X1.out.2).later ((Below.refl _ _).alloc (Nat.le_refl _) _)) (by omega)).mono ?_
                    rintro _ w3 ⟨a2, rfl, hr3, hb3⟩
                    have X3 : Aside (Two w (w3.alloc (.cells #[.slice a2 (k + 1) (k + 1)] 34)) w1.heap.size w3.heap.size a1 a2 k (k + 1) f (ins f p e)) := two_of X1.out.1 (hbW.out.trans (X1.out.2.mono hbW.out.size)) hr3 hb3
                    clear hr3 hb3 X1
                    go_wp2_with (go_at_call 7; refine (newCal _ _ ⟨_, _, _, rfl⟩).mono ?_; rintro _ w' ⟨rfl, rfl⟩)
                    generalize w3.alloc (.cells #[.slice a2 (k + 1) (k + 1)] 34) = W4 at *
                    generalize w1.heap.size = D1 at *
                    generalize w3.heap.size = D2 at *
                    have hcl : W4.cell? ⟨b, off + (k - 1), none⟩ = some (.int .i32 (f (k - 1))) := (X3.out.bel.cell hb).trans (HC.out (k - 1) (by omega))
                    generalize hz : f (k - 1) = z at hcl
                    have Z : Aside (f (k - 1) = z) := hz
                    clear hz
                    obtain ⟨v1, o1, v2, o2, g1, g2, hres⟩ := five K1.out K2.out WT.out
                    have G1 : Aside ((k1 < k ∧ v1 = f k1 ∧ o1 = true) ∨ (k1 = k ∧ v1 = 0 ∧ o1 = false)) := g1
                    have G2 : Aside ((k2 < (k + 1) ∧ v2 = (ins f p e) k2 ∧ o2 = true) ∨ (k2 = (k + 1) ∧ v2 = 0 ∧ o2 = false)) := g2
                    clear g1 g2
                    rcases hres with ⟨rfl, rfl, rfl, hn0, hl, hx1, hx2, hx3⟩ | ⟨rfl, rfl, rfl, hn0, hl, hx1, hx2⟩ | ⟨rfl, rfl, rfl, hn0, hl, hx1, hx2, hx3⟩ | ⟨rfl, rfl, rfl, rfl, hl, hx1⟩ | ⟨rfl, rfl, rfl, rfl, hl, hx1⟩
                    · rw [Z.out] at hl
                      refine (next_gen D1 k k1 a1 f d v1 true W4 (by omega) X3.out.cal1 X3.out.row1 A.out K1.out (by have := G1.out; simpa using this)).mono ?_
                      rintro _ w5 ⟨rfl, q1, rfl⟩
                      go_wp2_with fail
                      refine (next_gen D2 (k + 1) k2 a2 (ins f p e) d e true (W4.drewN q1) (by omega) X3.out.cal2 X3.out.row2 AM.out K2.out (by have := G2.out; simpa using this)).mono ?_
                      rintro _ w6 ⟨rfl, q2, rfl⟩
                      go_wp2
                      go_ret
                      exact ⟨by simp, below_drewN X3.out.bel _⟩
                    · rw [Z.out] at hl
                      refine (next_gen D1 k k1 a1 f d v1 true W4 (by omega) X3.out.cal1 X3.out.row1 A.out K1.out (by have := G1.out; simpa using this)).mono ?_
                      rintro _ w5 ⟨rfl, q1, rfl⟩
                      go_wp2_with fail
                      refine (next_gen D2 (k + 1) k2 a2 (ins f p e) d v1 true (W4.drewN q1) (by omega) X3.out.cal2 X3.out.row2 AM.out K2.out (by have := G2.out; simpa using this)).mono ?_
                      rintro _ w6 ⟨rfl, q2, rfl⟩
                      go_wp2
                      go_ret
                      exact ⟨by simp, below_drewN X3.out.bel _⟩
                    · rw [Z.out] at hl
                      refine (next_gen D1 k k1 a1 f d v1 true W4 (by omega) X3.out.cal1 X3.out.row1 A.out K1.out (by have := G1.out; simpa using this)).mono ?_
                      rintro _ w5 ⟨rfl, q1, rfl⟩
                      go_wp2_with fail
                      refine (next_gen D2 (k + 1) k2 a2 (ins f p e) d v1 true (W4.drewN q1) (by omega) X3.out.cal2 X3.out.row2 AM.out K2.out (by have := G2.out; simpa using this)).mono ?_
                      rintro _ w6 ⟨rfl, q2, rfl⟩
                      go_wp2
                      go_ret
                      exact ⟨by simp, below_drewN X3.out.bel _⟩
                    · have hl2 := hl hn
                      rw [Z.out] at hl2
                      clear hl
                      refine (next_gen D1 k k1 a1 f d 0 false W4 (by omega) X3.out.cal1 X3.out.row1 A.out K1.out (by have := G1.out; simpa using this)).mono ?_
                      rintro _ w5 ⟨rfl, q1, rfl⟩
                      go_wp2_with fail
                      refine (next_gen D2 (k + 1) k2 a2 (ins f p e) d e true (W4.drewN q1) (by omega) X3.out.cal2 X3.out.row2 AM.out K2.out (by have := G2.out; simpa using this)).mono ?_
                      rintro _ w6 ⟨rfl, q2, rfl⟩
                      go_wp2
                      go_ret
                      exact ⟨by simp, below_drewN X3.out.bel _⟩
                    · have hl2 := hl hn
                      rw [Z.out] at hl2
                      clear hl
                      refine (next_gen D1 k k1 a1 f d 0 false W4 (by omega) X3.out.cal1 X3.out.row1 A.out K1.out (by have := G1.out; simpa using this)).mono ?_
                      rintro _ w5 ⟨rfl, q1, rfl⟩
                      go_wp2_with fail
                      refine (next_gen D2 (k + 1) k2 a2 (ins f p e) d 0 false (W4.drewN q1) (by omega) X3.out.cal2 X3.out.row2 AM.out K2.out (by have := G2.out; simpa using this)).mono ?_
                      rintro _ w6 ⟨rfl, q2, rfl⟩
                      go_wp2
                      go_ret
                      exact ⟨by simp, below_drewN X3.out.bel _⟩



end Go.Proofs.Qxb6629184a.W
