import Derived.Test.Qxb6629257aWalksI
namespace Go.Proofs.Qxb6629257a.W
open Go.RowKit
set_option linter.unusedVariables false
set_option maxRecDepth 100000

set_option maxHeartbeats 4000000 in
theorem tail27 (b off n c : Nat) (t : Nat → Int) (w : World) (TT : Aside (Text w b off n t)) (hn : 0 < n) (hm : n ≤ 10000000) (LT : Aside (pWs t n < pWe t n)) (DD : Aside (pDot t n = true → pFs t n < pFe t n)) (u1 u2 u3 u11 u12 u13 u14 u15 u16 u17 u18 u19 u20 u21 u22 u23 u24 u25 u26 u27 u28 u29 u30 u31 u32 u33 u34 u35 u36 u37 u38 u39 u40 u41 u42 u43 u44 u45 u46 u47 u48 u49 u50 u51 u52 u53 u54 u55 u56 u57 u58 u59 u60 u61 u62 u63 u64 u65 u66 u67 u68 u69 u70 u71 u72 u73 u74 u75 u76 u77 u78 u79 u80 u81 u82 u83 u84 u85 u86 u87 u88 u89 u90 u91 u92 u93 u94 u95 u96 u97 u98 u99 u100 u101 u102 u103 u104 u105 u106 u107 u108 u109 u110 u111 u112 u113 u114 u115 u116 u117 u118 u119 u120 u121 u122 u123 u124 u125 u126 u127 u128 u129 u130 u131 u132 u133 u134 u135 u136 u137 u138 u139 u140 u141 u142 u143 u144 u145 u146 u147 u148 u149 u150 u151 u152 u153 u154 u155 u156 u157 u158 u159 u160 u161 u162 u163 u164 u165 u166 u167 u168 u169 u170 u171 u172 u173 u174 u175 u176 u177 u178 u179 u180 u181 u182 u183 u184 u185 u186 u187 u188 u189 u190 u191 u192 u193 u194 u195 u196 u197 u198 u199 u200 u201 u202 u203 u204 u205 u206 u207 u208 u209 u210 u211 u212 u213 u214 u215 u216 u217 u218 u219 u220 u221 u222 u223 u224 u225 u226 u227 u228 u229 u230 u231 u232 u233 u234 u235 u236 u237 u238 u239 u240 u241 u242 u243 u244 u245 u246 u247 u248 u249 u250 u251 u252 u253 u254 u255 u256 u257 u258 u259 u260 : Value) :
    Code.wp Try.prog ((Try.f7.body.bind (tailAt 27)).getD .skip) (bodyPost Try.prog Try.f7 (ModelPost t n w)) ⟨#[.slice (some ⟨b, off, none⟩) n c, u1, u2, u3, .int .i64 ((n : Int)), .int .i64 ((pFe t n : Int)), .bool (pNeg t n), .int .i64 ((pWs t n : Int)), .int .i64 ((pWe t n : Int)), .int .i64 ((pFs t n : Int)), .int .i64 ((pFe t n : Int)), u11, u12, u13, u14, u15, u16, u17, u18, u19, u20, u21, u22, u23, u24, u25, u26, u27, u28, u29, u30, u31, u32, u33, u34, u35, u36, u37, u38, u39, u40, u41, u42, u43, u44, u45, u46, u47, u48, u49, u50, u51, u52, u53, u54, u55, u56, u57, u58, u59, u60, u61, u62, u63, u64, u65, u66, u67, u68, u69, u70, u71, u72, u73, u74, u75, u76, u77, u78, u79, u80, u81, u82, u83, u84, u85, u86, u87, u88, u89, u90, u91, u92, u93, u94, u95, u96, u97, u98, u99, u100, u101, u102, u103, u104, u105, u106, u107, u108, u109, u110, u111, u112, u113, u114, u115, u116, u117, u118, u119, u120, u121, u122, u123, u124, u125, u126, u127, u128, u129, u130, u131, u132, u133, u134, u135, u136, u137, u138, u139, u140, u141, u142, u143, u144, u145, u146, u147, u148, u149, u150, u151, u152, u153, u154, u155, u156, u157, u158, u159, u160, u161, u162, u163, u164, u165, u166, u167, u168, u169, u170, u171, u172, u173, u174, u175, u176, u177, u178, u179, u180, u181, u182, u183, u184, u185, u186, u187, u188, u189, u190, u191, u192, u193, u194, u195, u196, u197, u198, u199, u200, u201, u202, u203, u204, u205, u206, u207, u208, u209, u210, u211, u212, u213, u214, u215, u216, u217, u218, u219, u220, u221, u222, u223, u224, u225, u226, u227, u228, u229, u230, u231, u232, u233, u234, u235, u236, u237, u238, u239, u240, u241, u242, u243, u244, u245, u246, u247, u248, u249, u250, u251, u252, u253, u254, u255, u256, u257, u258, u259, u260], []⟩ w := by
  conv => arg 2; whnf
  have l1 := pWe_le t n
  have l2 := pFe_le t n
  go_upto_region 28 with fail
  go_cut [121] (fun s wc => s = .bool (pExp t n) ∧ w = wc)
  case first => as_aux_lemma =>
    by_cases hfn : pFe t n < n
    · have ce := TT.out.cells (pFe t n) hfn
      by_cases h101 : t (pFe t n) = 101
      · have HB : Aside (pExp t n = true) := exp_yes ⟨hfn, .inl h101⟩
        rw [h101] at ce
        clear h101
        go_wp2_with fail
        go_meet
        case rel => exact ⟨by rw [HB.out], rfl⟩
      · by_cases h69 : t (pFe t n) = 69
        · have HB : Aside (pExp t n = true) := exp_yes ⟨hfn, .inr h69⟩
          rw [h69] at ce
          clear h101 h69
          go_wp2_with fail
          go_meet
          case rel => exact ⟨by rw [HB.out], rfl⟩
        · have HB : Aside (pExp t n = false) := exp_no (fun hh => by rcases hh.2 with h | h; exact h101 h; exact h69 h)
          have b1 : (t (pFe t n) == 101) = false := beq_eq_false_iff_ne.2 h101
          have b2 : (t (pFe t n) == 69) = false := beq_eq_false_iff_ne.2 h69
          clear h101 h69
          generalize t (pFe t n) = y at ce b1 b2
          go_wp2_with fail
          go_meet
          case rel => exact ⟨by rw [HB.out], rfl⟩
    · have HB : Aside (pExp t n = false) := exp_no (fun hh => hfn hh.1)
      go_wp2_with fail
      go_meet
      case rel => exact ⟨by rw [HB.out], rfl⟩
  case rest => as_aux_lemma =>
    obtain ⟨rfl, rfl⟩ := hcut
    go_upto_if 121 with fail
    go_cut [5, 11] (fun s5 s11 wc => s5 = .int .i64 (pEe t n) ∧ s11 = .int .i64 (mEx t n) ∧ (pExp t n = true → pDs t n < pEe t n) ∧ w = wc)
    case first => as_aux_lemma =>
      cases hex : pExp t n with
      | false =>
        have HX : Aside (pExp t n = false) := hex
        have eF : Aside (pEe t n = pFe t n ∧ mEx t n = 0) := exp_off hex
        clear hex
        go_wp2_with fail
        go_meet
        case rel => exact ⟨by rw [eF.out.1], by rw [eF.out.2], fun hh => absurd (HX.out.symm.trans hh) (by decide), rfl⟩
      | true =>
        have HX : Aside (pExp t n = true) := hex
        have R : Aside (DigRun t n (pDs t n) (pEe t n)) := pEe_run t n hex
        have eEs : Aside (pEs t n = pFe t n + 1) := exp_on hex
        have m1 := pEs_le t n
        have m2 := pDs_le t n
        have m3 := pEe_le t n
        have m4 := pEs_le_Ds t n
        have m5 := R.out.le
        clear hex
        go_upto_region 31 with fail
        rw [show ((pFe t n : Int) + 1) = (pEs t n : Int) by rw [eEs.out]; go_num]
        go_cut [140] (fun s wc => s = .bool (pPlus t n || pMinus t n) ∧ w = wc)
        case first => as_aux_lemma =>
          by_cases hen : pEs t n < n
          · have ce := TT.out.cells (pEs t n) hen
            by_cases h43 : t (pEs t n) = 43
            · have HB : Aside ((pPlus t n || pMinus t n) = true) := by show (pPlus t n || pMinus t n) = true; rw [show pPlus t n = true from decide_eq_true ⟨hen, h43⟩]; rfl
              rw [h43] at ce
              clear h43
              go_wp2_with fail
              go_meet
              case rel => exact ⟨by rw [HB.out], rfl⟩
            · by_cases h45 : t (pEs t n) = 45
              · have HB : Aside ((pPlus t n || pMinus t n) = true) := by show (pPlus t n || pMinus t n) = true; rw [show pMinus t n = true from decide_eq_true ⟨hen, h45⟩]; simp
                rw [h45] at ce
                clear h43 h45
                go_wp2_with fail
                go_meet
                case rel => exact ⟨by rw [HB.out], rfl⟩
              · have HB : Aside ((pPlus t n || pMinus t n) = false) := by
                  obtain ⟨a1, a2⟩ := sg_no (t := t) (n := n) (fun hh => by rcases hh.2 with h | h; exact h43 h; exact h45 h)
                  show (pPlus t n || pMinus t n) = false; rw [a1, a2]; rfl
                have b1 : (t (pEs t n) == 43) = false := beq_eq_false_iff_ne.2 h43
                have b2 : (t (pEs t n) == 45) = false := beq_eq_false_iff_ne.2 h45
                clear h43 h45
                generalize t (pEs t n) = y at ce b1 b2
                go_wp2_with fail
                go_meet
                case rel => exact ⟨by rw [HB.out], rfl⟩
          · have HB : Aside ((pPlus t n || pMinus t n) = false) := by
              obtain ⟨a1, a2⟩ := sg_no (t := t) (n := n) (fun hh => hen hh.1)
              show (pPlus t n || pMinus t n) = false; rw [a1, a2]; rfl
            go_wp2_with fail
            go_meet
            case rel => exact ⟨by rw [HB.out], rfl⟩
        case rest => as_aux_lemma =>
          obtain ⟨rfl, rfl⟩ := hcut
          go_upto_if 140 with fail
          go_cut [5, 12] (fun s5 s12 wc => s5 = .int .i64 (pDs t n) ∧ s12 = .bool (pMinus t n) ∧ w = wc)
          case first => as_aux_lemma =>
            cases hsg : (pPlus t n || pMinus t n) with
            | true =>
              have eDs : Aside (pDs t n = pEs t n + 1) := sg_on hsg
              have hen : pEs t n < n := by
                simp [pPlus, pMinus] at hsg
                omega
              have ce := TT.out.cells (pEs t n) hen
              clear hsg
              by_cases h45 : t (pEs t n) = 45
              · have HM : Aside (pMinus t n = true) := decide_eq_true ⟨hen, h45⟩
                rw [h45] at ce
                clear h45
                go_wp2_with fail
                go_meet
                case rel => exact ⟨by rw [eDs.out]; go_num, by rw [HM.out], rfl⟩
              · have HM : Aside (pMinus t n = false) := decide_eq_false (fun hh => h45 hh.2)
                have b2 : (t (pEs t n) == 45) = false := beq_eq_false_iff_ne.2 h45
                clear h45
                generalize t (pEs t n) = y at ce b2
                go_wp2_with fail
                go_meet
                case rel => exact ⟨by rw [eDs.out]; go_num, by rw [HM.out], rfl⟩
            | false =>
              have eDs : Aside (pDs t n = pEs t n) := sg_off hsg
              have HM : Aside (pMinus t n = false) := by
                show pMinus t n = false
                cases hq : pMinus t n with
                | false => rfl
                | true => rw [hq] at hsg; simp at hsg
              clear hsg
              go_wp2_with fail
              go_meet
              case rel => exact ⟨by rw [eDs.out], by rw [HM.out], rfl⟩
          case rest => as_aux_lemma =>
            obtain ⟨rfl, rfl, rfl⟩ := hcut
            go_upto_block 4 with fail
            go_cut [5, 11] (fun s5 s11 wc => s5 = .int .i64 (pEe t n) ∧ s11 = .int .i64 (expAt (cE t n) 1099511627776 (cM t n)) ∧ w = wc)
            case first => as_aux_lemma =>
              go_wp2_with fail
              go_loopg [5, 11] (cM t n + 1) (fun g s5 s11 wr => ∃ k : Nat, s5 = .int .i64 ((pDs t n + k : Nat) : Int) ∧ s11 = .int .i64 (expAt (cE t n) 1099511627776 k) ∧ k ≤ cM t n ∧ cM t n + 1 - k ≤ g ∧ w = wr)
              case atStart => exact ⟨0, rfl, rfl, Nat.zero_le _, by omega, rfl⟩
              case round =>
                obtain ⟨k, rfl, rfl, hk, hg, rfl⟩ := hrel
                have hbd := expAt_bd (cE t n) 1099511627776 (cM t n) (by omega) cE_dig k hk
                have hcm : cM t n = pEe t n - pDs t n := rfl
                by_cases hkl : k < cM t n
                · have hkn : pDs t n + k < n := by omega
                  have ck := TT.out.cells (pDs t n + k) hkn
                  obtain ⟨d1, d2⟩ := cE_dig (t := t) (n := n) k hkl
                  have HS : Aside (expAt (cE t n) 1099511627776 (k + 1) = min (expAt (cE t n) 1099511627776 k * 10 + (cE t n k - 48)) 1099511627776) := rfl
                  have eE : cE t n k = t (pDs t n + k) := rfl
                  rw [← eE] at ck
                  clear eE hcm
                  generalize cE t n k = y at ck d1 d2 HS
                  generalize expAt (cE t n) 1099511627776 k = x at hbd HS ⊢
                  go_wp2_with (go_at_call 12; refine (isdig_yes _ _ d1 d2).mono ?_; rintro _ w' ⟨rfl, rfl⟩)
                  all_goals
                    go_roundg (cM t n + 1 - (k + 1))
                    case measure => omega
                    case rel => exact ⟨k + 1, by go_num, by rw [HS.out]; exact congrArg (Value.int .i64) (by omega), by omega, by omega, rfl⟩
                · have ek : k = cM t n := by omega
                  have EK : Aside (k = cM t n) := ek
                  have hee : pDs t n + k = pEe t n := by omega
                  clear ek hcm
                  by_cases hkn : pDs t n + k < n
                  · have ck := TT.out.cells (pDs t n + k) hkn
                    have hst := R.out.stop (by omega)
                    rw [← hee] at hst
                    have HEE : Aside (pDs t n + k = pEe t n) := hee
                    clear hee
                    generalize t (pDs t n + k) = y at ck hst
                    go_wp2_with (go_at_call 12; refine (isdig_no _ _ hst).mono ?_; rintro _ w' ⟨rfl, rfl⟩)
                    go_meet
                    case rel => exact ⟨congrArg (Value.int .i64) (by have := HEE.out; omega), by rw [EK.out], rfl⟩
                  · have HEE : Aside (pDs t n + k = pEe t n) := hee
                    clear hee
                    go_wp2_with fail
                    go_meet
                    case rel => exact ⟨congrArg (Value.int .i64) (by have := HEE.out; omega), by rw [EK.out], rfl⟩
            case rest => as_aux_lemma =>
              obtain ⟨rfl, rfl, rfl⟩ := hcut
              have hbd := expAt_bd (cE t n) 1099511627776 (cM t n) (by omega) cE_dig (cM t n) (Nat.le_refl _)
              by_cases hdl : pDs t n < pEe t n
              · have eM : Aside (mEx t n = exOf (pMinus t n) (expAt (cE t n) 1099511627776 (cM t n))) := by
                  show mEx t n = _
                  unfold mEx cSgn
                  rw [HX.out]; rfl
                generalize expAt (cE t n) 1099511627776 (cM t n) = x at hbd eM ⊢
                cases hmi : pMinus t n with
                | true =>
                  rw [hmi] at eM
                  have eM2 : Aside (mEx t n = -x) := eM.out
                  clear eM hmi
                  go_wp2_with fail
                  go_meet
                  case rel => exact ⟨rfl, by rw [eM2.out], fun _ => hdl, rfl⟩
                | false =>
                  rw [hmi] at eM
                  have eM2 : Aside (mEx t n = x) := eM.out
                  clear eM hmi
                  go_wp2_with fail
                  go_meet
                  case rel => exact ⟨rfl, by rw [eM2.out], fun _ => hdl, rfl⟩
              · have hfail : Aside (IntOut t n 0 false) := m_fail (fun h => hdl (h.1.2.2 HX.out))
                clear hbd
                generalize expAt (cE t n) 1099511627776 (cM t n) = x
                go_wp2_with fail
                go_ret2
                exact ModelPost.mk (v := 0) (ok := false) rfl hfail.out
    case rest => as_aux_lemma =>
      obtain ⟨rfl, rfl, hxx, rfl⟩ := hcut
      go_step
      exact tail44 b off n c t w TT hn hm LT DD hxx _ _ _ _ _ _ _ _ _ _ _ _ _ _ _ _ _ _ _ _ _ _ _ _ _ _ _ _ _ _ _ _ _ _ _ _ _ _ _ _ _ _ _ _ _ _ _ _ _ _ _ _ _ _ _ _ _ _ _ _ _ _ _ _ _ _ _ _ _ _ _ _ _ _ _ _ _ _ _ _ _ _ _ _ _ _ _ _ _ _ _ _ _ _ _ _ _ _ _ _ _ _ _ _ _ _ _ _ _ _ _ _ _ _ _ _ _ _ _ _ _ _ _ _ _ _ _ _ _ _ _ _ _ _ _ _ _ _ _ _ _ _ _ _ _ _ _ _ _ _ _ _ _ _ _ _ _ _ _ _ _ _ _ _ _ _ _ _ _ _ _ _ _ _ _ _ _ _ _ _ _ _ _ _ _ _ _ _ _ _ _ _ _ _ _ _ _ _ _ _ _ _ _ _ _ _ _ _ _ _ _ _ _ _ _ _ _ _ _ _ _ _ _ _ _ _ _ _ _ _ _ _ _ _ _ _ _ _ _ _ _ _ _ _ _ _ _ _ _ _ _ _


end Go.Proofs.Qxb6629257a.W
