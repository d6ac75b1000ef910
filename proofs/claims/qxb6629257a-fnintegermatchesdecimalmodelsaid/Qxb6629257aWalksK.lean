import Derived.Test.Qxb6629257aWalksJ
namespace Go.Proofs.Qxb6629257a.W
open Go.RowKit
set_option linter.unusedVariables false
set_option maxRecDepth 100000

set_option maxHeartbeats 4000000 in
theorem tail16 (b off n c : Nat) (t : Nat → Int) (w : World) (TT : Aside (Text w b off n t)) (hn : 0 < n) (hm : n ≤ 10000000) (LT : Aside (pWs t n < pWe t n)) (u1 u2 u3 u8 u9 u10 u11 u12 u13 u14 u15 u16 u17 u18 u19 u20 u21 u22 u23 u24 u25 u26 u27 u28 u29 u30 u31 u32 u33 u34 u35 u36 u37 u38 u39 u40 u41 u42 u43 u44 u45 u46 u47 u48 u49 u50 u51 u52 u53 u54 u55 u56 u57 u58 u59 u60 u61 u62 u63 u64 u65 u66 u67 u68 u69 u70 u71 u72 u73 u74 u75 u76 u77 u78 u79 u80 u81 u82 u83 u84 u85 u86 u87 u88 u89 u90 u91 u92 u93 u94 u95 u96 u97 u98 u99 u100 u101 u102 u103 u104 u105 u106 u107 u108 u109 u110 u111 u112 u113 u114 u115 u116 u117 u118 u119 u120 u121 u122 u123 u124 u125 u126 u127 u128 u129 u130 u131 u132 u133 u134 u135 u136 u137 u138 u139 u140 u141 u142 u143 u144 u145 u146 u147 u148 u149 u150 u151 u152 u153 u154 u155 u156 u157 u158 u159 u160 u161 u162 u163 u164 u165 u166 u167 u168 u169 u170 u171 u172 u173 u174 u175 u176 u177 u178 u179 u180 u181 u182 u183 u184 u185 u186 u187 u188 u189 u190 u191 u192 u193 u194 u195 u196 u197 u198 u199 u200 u201 u202 u203 u204 u205 u206 u207 u208 u209 u210 u211 u212 u213 u214 u215 u216 u217 u218 u219 u220 u221 u222 u223 u224 u225 u226 u227 u228 u229 u230 u231 u232 u233 u234 u235 u236 u237 u238 u239 u240 u241 u242 u243 u244 u245 u246 u247 u248 u249 u250 u251 u252 u253 u254 u255 u256 u257 u258 u259 u260 : Value) :
    Code.wp Try.prog ((Try.f7.body.bind (tailAt 16)).getD .skip) (bodyPost Try.prog Try.f7 (ModelPost t n w)) ⟨#[.slice (some ⟨b, off, none⟩) n c, u1, u2, u3, .int .i64 ((n : Int)), .int .i64 ((pWe t n : Int)), .bool (pNeg t n), .int .i64 ((pWs t n : Int)), u8, u9, u10, u11, u12, u13, u14, u15, u16, u17, u18, u19, u20, u21, u22, u23, u24, u25, u26, u27, u28, u29, u30, u31, u32, u33, u34, u35, u36, u37, u38, u39, u40, u41, u42, u43, u44, u45, u46, u47, u48, u49, u50, u51, u52, u53, u54, u55, u56, u57, u58, u59, u60, u61, u62, u63, u64, u65, u66, u67, u68, u69, u70, u71, u72, u73, u74, u75, u76, u77, u78, u79, u80, u81, u82, u83, u84, u85, u86, u87, u88, u89, u90, u91, u92, u93, u94, u95, u96, u97, u98, u99, u100, u101, u102, u103, u104, u105, u106, u107, u108, u109, u110, u111, u112, u113, u114, u115, u116, u117, u118, u119, u120, u121, u122, u123, u124, u125, u126, u127, u128, u129, u130, u131, u132, u133, u134, u135, u136, u137, u138, u139, u140, u141, u142, u143, u144, u145, u146, u147, u148, u149, u150, u151, u152, u153, u154, u155, u156, u157, u158, u159, u160, u161, u162, u163, u164, u165, u166, u167, u168, u169, u170, u171, u172, u173, u174, u175, u176, u177, u178, u179, u180, u181, u182, u183, u184, u185, u186, u187, u188, u189, u190, u191, u192, u193, u194, u195, u196, u197, u198, u199, u200, u201, u202, u203, u204, u205, u206, u207, u208, u209, u210, u211, u212, u213, u214, u215, u216, u217, u218, u219, u220, u221, u222, u223, u224, u225, u226, u227, u228, u229, u230, u231, u232, u233, u234, u235, u236, u237, u238, u239, u240, u241, u242, u243, u244, u245, u246, u247, u248, u249, u250, u251, u252, u253, u254, u255, u256, u257, u258, u259, u260], []⟩ w := by
  conv => arg 2; whnf
  have l1 := pWe_le t n
  go_upto_region 19 with fail
  go_cut [85] (fun s wc => s = .bool (pDot t n) ∧ w = wc)
  case first =>
    by_cases hwn : pWe t n < n
    · have ce := TT.out.cells (pWe t n) hwn
      by_cases h46 : t (pWe t n) = 46
      · have HB : Aside (pDot t n = true) := dot_yes ⟨hwn, h46⟩
        rw [h46] at ce
        clear h46
        go_wp2_with fail
        go_meet
        case rel => exact ⟨by rw [HB.out], rfl⟩
      · have HB : Aside (pDot t n = false) := dot_no (fun hh => h46 hh.2)
        have b1 : (t (pWe t n) == 46) = false := beq_eq_false_iff_ne.2 h46
        clear h46
        generalize t (pWe t n) = y at ce b1
        go_wp2_with fail
        go_meet
        case rel => exact ⟨by rw [HB.out], rfl⟩
    · have HB : Aside (pDot t n = false) := dot_no (fun hh => hwn hh.1)
      go_wp2_with fail
      go_meet
      case rel => exact ⟨by rw [HB.out], rfl⟩
  case rest =>
    obtain ⟨rfl, rfl⟩ := hcut
    have l2 := pFe_le t n
    have l3 := pFs_le_Fe t n
    go_upto_if 85 with fail
    go_cut [5, 9, 10] (fun s5 s9 s10 wc => s5 = .int .i64 (pFe t n) ∧ s9 = .int .i64 (pFs t n) ∧ s10 = .int .i64 (pFe t n) ∧ (pDot t n = true → pFs t n < pFe t n) ∧ w = wc)
    case first =>
      cases hdot : pDot t n with
      | false =>
        have HD : Aside (pDot t n = false) := hdot
        have eF : Aside (pFs t n = pWe t n ∧ pFe t n = pWe t n) := dot_off hdot
        clear hdot
        go_wp2_with fail
        go_meet
        case rel => exact ⟨by rw [eF.out.2], by rw [eF.out.1], by rw [eF.out.2], fun hh => absurd (HD.out.symm.trans hh) (by decide), rfl⟩
      | true =>
        have HD : Aside (pDot t n = true) := hdot
        have R : Aside (DigRun t n (pFs t n) (pFe t n)) := pFe_run t n hdot
        have eFs : Aside (pFs t n = pWe t n + 1) := dot_on hdot
        clear hdot
        go_upto_block 2 with fail
        go_cut [5] (fun s wc => s = .int .i64 (pFe t n) ∧ w = wc)
        case first =>
          go_wp2_with fail
          go_loopg [5] n (fun g s wr => ∃ k : Nat, s = .int .i64 k ∧ pFs t n ≤ k ∧ k ≤ pFe t n ∧ n - k ≤ g ∧ w = wr)
          case atStart => exact ⟨pFs t n, by rw [eFs.out]; go_num, Nat.le_refl _, l3, by omega, rfl⟩
          case round =>
            obtain ⟨k, rfl, hk1, hk2, hg, rfl⟩ := hrel
            by_cases hkl : k < pFe t n
            · have hkn : k < n := by omega
              have ck := TT.out.cells k hkn
              obtain ⟨d1, d2⟩ := R.out.dig k hk1 hkl
              generalize t k = y at ck d1 d2
              go_wp2_with (go_at_call 12; refine (isdig_yes _ _ d1 d2).mono ?_; rintro _ w' ⟨rfl, rfl⟩)
              go_roundg (n - (k + 1))
              case measure => omega
              case rel => exact ⟨k + 1, by go_num, by omega, by omega, by omega, rfl⟩
            · have ek : k = pFe t n := by omega
              by_cases hkn : k < n
              · have ck := TT.out.cells k hkn
                have hst := R.out.stop (by omega)
                rw [← ek] at hst
                have EK : Aside (k = pFe t n) := ek
                clear ek
                generalize t k = y at ck hst
                go_wp2_with (go_at_call 12; refine (isdig_no _ _ hst).mono ?_; rintro _ w' ⟨rfl, rfl⟩)
                go_meet
                case rel => exact ⟨by rw [EK.out], rfl⟩
              · have EK : Aside (k = pFe t n) := ek
                clear ek
                go_wp2_with fail
                go_meet
                case rel => exact ⟨by rw [EK.out], rfl⟩
        case rest =>
          obtain ⟨rfl, rfl⟩ := hcut
          rw [show ((pWe t n : Int) + 1) = (pFs t n : Int) by rw [eFs.out]; go_num]
          by_cases hfl : pFs t n < pFe t n
          · have hb : ((pFe t n : Int) == (pFs t n : Int)) = false := beq_eq_false_iff_ne.2 (by omega)
            go_wp2_with fail
            go_meet
            case rel => exact ⟨rfl, rfl, rfl, fun _ => hfl, rfl⟩
          · have hfail : Aside (IntOut t n 0 false) := m_fail (fun h => hfl (h.1.2.1 HD.out))
            have hb : ((pFe t n : Int) == (pFs t n : Int)) = true := beq_iff_eq.2 (by omega)
            go_wp2_with fail
            go_ret2
            exact ModelPost.mk (v := 0) (ok := false) rfl hfail.out
    case rest =>
      obtain ⟨rfl, rfl, rfl, hdd, rfl⟩ := hcut
      go_step
      exact tail27 b off n c t w TT hn hm LT hdd _ _ _ _ _ _ _ _ _ _ _ _ _ _ _ _ _ _ _ _ _ _ _ _ _ _ _ _ _ _ _ _ _ _ _ _ _ _ _ _ _ _ _ _ _ _ _ _ _ _ _ _ _ _ _ _ _ _ _ _ _ _ _ _ _ _ _ _ _ _ _ _ _ _ _ _ _ _ _ _ _ _ _ _ _ _ _ _ _ _ _ _ _ _ _ _ _ _ _ _ _ _ _ _ _ _ _ _ _ _ _ _ _ _ _ _ _ _ _ _ _ _ _ _ _ _ _ _ _ _ _ _ _ _ _ _ _ _ _ _ _ _ _ _ _ _ _ _ _ _ _ _ _ _ _ _ _ _ _ _ _ _ _ _ _ _ _ _ _ _ _ _ _ _ _ _ _ _ _ _ _ _ _ _ _ _ _ _ _ _ _ _ _ _ _ _ _ _ _ _ _ _ _ _ _ _ _ _ _ _ _ _ _ _ _ _ _ _ _ _ _ _ _ _ _ _ _ _ _ _ _ _ _ _ _ _ _ _ _ _ _ _ _ _ _ _ _ _ _ _ _ _ _


set_option maxHeartbeats 4000000 in
theorem model_at (b off n c : Nat) (t : Nat → Int) (w : World) (T : Text w b off n t) (hn : 0 < n) (hm : n ≤ 10000000) :
    Calls Try.prog 7 #[.slice (some ⟨b, off, none⟩) n c] w (ModelPost t n w) := by
  have TT : Aside (Text w b off n t) := T
  have c0 := T.cells 0 hn
  rw [Nat.add_zero] at c0
  clear T
  go_enter Try.func7, Try.ntmps7
  go_upto_if 35 with fail
  go_cut [5, 6] (fun s5 s6 wc => s5 = .int .i64 (pWs t n) ∧ s6 = .bool (pNeg t n) ∧ w = wc)
  case first =>
    by_cases h45 : t 0 = 45
    · have e1 : Aside (pNeg t n = true) := decide_eq_true ⟨hn, h45⟩
      rw [h45] at c0 ⊢
      go_wp2_with fail
      go_meet
      case rel => exact ⟨by unfold pWs; rw [e1.out]; rfl, by rw [e1.out], rfl⟩
    · have e1 : Aside (pNeg t n = false) := decide_eq_false (fun h => h45 h.2)
      have hb : (t 0 == 45) = false := beq_eq_false_iff_ne.2 h45
      clear h45
      generalize t 0 = x at c0 hb ⊢
      go_wp2_with fail
      go_meet
      case rel => exact ⟨by unfold pWs; rw [e1.out]; rfl, by rw [e1.out], rfl⟩
  case rest =>
    obtain ⟨rfl, rfl, rfl⟩ := hcut
    clear c0
    have l0 := pWs_le t n
    by_cases hws : pWs t n < n
    · have cw := TT.out.cells (pWs t n) hws
      have hz0 : pZero t n = decide (t (pWs t n) = 48) := by unfold pZero; rw [Bool.eq_iff_iff]; simp [hws]
      have hge : decide (n ≤ pWs t n) = false := decide_eq_false (by omega)
      go_upto_if 46 with fail
      go_cut [5] (fun s5 wc => s5 = .int .i64 (pWe t n) ∧ pWs t n < pWe t n ∧ w = wc)
      case first =>
        by_cases h48 : t (pWs t n) = 48
        · have e1 : Aside (pZero t n = true) := by show pZero t n = true; rw [hz0]; exact decide_eq_true h48
          have e2 : Aside (pWe t n = pWs t n + 1) := by show pWe t n = _; unfold pWe; rw [if_pos e1.out]
          clear hz0
          rw [h48] at cw ⊢
          clear h48
          go_wp2_with fail
          go_meet
          case rel => exact ⟨by rw [e2.out]; go_num, by rw [e2.out]; omega, rfl⟩
        · have e1 : Aside (pZero t n = false) := by show pZero t n = false; rw [hz0]; exact decide_eq_false h48
          have R : Aside (DigRun t n (pWs t n) (pWe t n)) := pWe_run t n e1.out
          have hb : (t (pWs t n) == 48) = false := beq_eq_false_iff_ne.2 h48
          rw [hb]
          clear hz0 hge
          by_cases hd : 49 ≤ t (pWs t n) ∧ t (pWs t n) ≤ 57
          · obtain ⟨d1, d2⟩ := hd
            have hlt : pWs t n < pWe t n := by
              rcases Nat.lt_or_ge (pWs t n) (pWe t n) with h | h
              · exact h
              · have e3 : pWe t n = pWs t n := by have := R.out.le; omega
                have := R.out.stop (by omega)
                rw [e3] at this
                omega
            have hwe := pWe_le t n
            clear h48
            generalize t (pWs t n) = x at cw hb d1 d2 ⊢
            have b1 : decide (49 ≤ x) = true := decide_eq_true d1
            have b2 : decide (x ≤ 57) = true := decide_eq_true d2
            go_wp2_with fail
            clear cw hb d1 d2 b1 b2
            go_loopg [5] n (fun g s wr => ∃ k : Nat, s = .int .i64 k ∧ pWs t n ≤ k ∧ k ≤ pWe t n ∧ n - k ≤ g ∧ w = wr)
            case atStart => exact ⟨_, rfl, Nat.le_refl _, by omega, by omega, rfl⟩
            case round =>
              obtain ⟨k, rfl, hk1, hk2, hg, rfl⟩ := hrel
              by_cases hkl : k < pWe t n
              · have hkn : k < n := by omega
                have ck := TT.out.cells k hkn
                obtain ⟨d1, d2⟩ := R.out.dig k hk1 hkl
                generalize t k = y at ck d1 d2
                go_wp2_with (go_at_call 12; refine (isdig_yes _ _ d1 d2).mono ?_; rintro _ w' ⟨rfl, rfl⟩)
                go_roundg (n - (k + 1))
                case measure => omega
                case rel => exact ⟨k + 1, by go_num, by omega, by omega, by omega, rfl⟩
              · have ek : k = pWe t n := by omega
                by_cases hkn : k < n
                · have ck := TT.out.cells k hkn
                  have hst := R.out.stop (by omega)
                  rw [← ek] at hst
                  have EK : Aside (k = pWe t n) := ek
                  clear ek
                  generalize t k = y at ck hst
                  go_wp2_with (go_at_call 12; refine (isdig_no _ _ hst).mono ?_; rintro _ w' ⟨rfl, rfl⟩)
                  go_meet
                  case rel => exact ⟨by rw [EK.out], hlt, rfl⟩
                · have EK : Aside (k = pWe t n) := ek
                  clear ek
                  go_wp2_with fail
                  go_meet
                  case rel => exact ⟨by rw [EK.out], hlt, rfl⟩
          · have hfail : Aside (IntOut t n 0 false) := m_fail (fun h => by
              have h1 := h.1.1
              have := R.out.dig (pWs t n) (Nat.le_refl _) h1
              omega)
            have h4957 : (49 ≤ t (pWs t n) ∧ ¬ t (pWs t n) ≤ 57) ∨ ¬ 49 ≤ t (pWs t n) := by omega
            clear h48 hd
            generalize t (pWs t n) = x at cw hb h4957 ⊢
            rcases h4957 with ⟨d1, d2⟩ | d1
            · have b1 : decide (49 ≤ x) = true := decide_eq_true d1
              have b2 : decide (x ≤ 57) = false := decide_eq_false d2
              go_wp2_with fail
              go_ret2
              exact ModelPost.mk (v := 0) (ok := false) rfl hfail.out
            · have b1 : decide (49 ≤ x) = false := decide_eq_false d1
              go_wp2_with fail
              go_ret2
              exact ModelPost.mk (v := 0) (ok := false) rfl hfail.out
      case rest =>
        obtain ⟨rfl, hwlt, rfl⟩ := hcut
        go_step
        exact tail16 b off n c t w TT hn hm hwlt _ _ _ _ _ _ _ _ _ _ _ _ _ _ _ _ _ _ _ _ _ _ _ _ _ _ _ _ _ _ _ _ _ _ _ _ _ _ _ _ _ _ _ _ _ _ _ _ _ _ _ _ _ _ _ _ _ _ _ _ _ _ _ _ _ _ _ _ _ _ _ _ _ _ _ _ _ _ _ _ _ _ _ _ _ _ _ _ _ _ _ _ _ _ _ _ _ _ _ _ _ _ _ _ _ _ _ _ _ _ _ _ _ _ _ _ _ _ _ _ _ _ _ _ _ _ _ _ _ _ _ _ _ _ _ _ _ _ _ _ _ _ _ _ _ _ _ _ _ _ _ _ _ _ _ _ _ _ _ _ _ _ _ _ _ _ _ _ _ _ _ _ _ _ _ _ _ _ _ _ _ _ _ _ _ _ _ _ _ _ _ _ _ _ _ _ _ _ _ _ _ _ _ _ _ _ _ _ _ _ _ _ _ _ _ _ _ _ _ _ _ _ _ _ _ _ _ _ _ _ _ _ _ _ _ _ _ _ _ _ _ _ _ _ _ _ _ _ _ _ _ _ _ _ _ _
    · have hfail : Aside (IntOut t n 0 false) := m_fail (fun h => by
        have h1 := h.1.1
        have := pWe_le t n
        omega)
      go_wp2_with fail
      go_ret2
      exact ModelPost.mk (v := 0) (ok := false) rfl hfail.out

end Go.Proofs.Qxb6629257a.W
