import Derived.Test.Qxb6629257aWalksH
namespace Go.Proofs.Qxb6629257a.W
open Go.RowKit
set_option linter.unusedVariables false
set_option maxRecDepth 100000

theorem NZ.skip {D : Nat → Int} {k a z : Nat} (h : NZ D k a z) (hd : D k = 48) : NZ D (k + 1) a z :=
  ⟨h.le, by have := h.lt; omega, h.lead, h.first, h.last, fun i h1 h2 => by
    by_cases e : i = k
    · subst e; exact hd
    · exact h.tail i h1 (by omega)⟩
theorem NZ.next {D : Nat → Int} {k a z : Nat} (h : NZ D k a z) (hd : D k ≠ 48) : NZ D (k + 1) a k :=
  ⟨by have := h.le; have := h.lt; omega, by omega, h.lead, h.first, hd, fun i h1 h2 => by omega⟩
theorem nz_first {D : Nat → Int} {k : Nat} (h : ∀ i, i < k → D i = 48) (hd : D k ≠ 48) : NZ D (k + 1) k k :=
  ⟨Nat.le_refl _, by omega, h, hd, hd, fun i h1 h2 => by omega⟩

set_option maxHeartbeats 4000000 in
theorem tail44 (b off n c : Nat) (t : Nat → Int) (w : World) (TT : Aside (Text w b off n t)) (hn : 0 < n) (hm : n ≤ 10000000) (LT : Aside (pWs t n < pWe t n)) (DD : Aside (pDot t n = true → pFs t n < pFe t n)) (XX : Aside (pExp t n = true → pDs t n < pEe t n)) (u1 u2 u3 u12 u13 u14 u15 u16 u17 u18 u19 u20 u21 u22 u23 u24 u25 u26 u27 u28 u29 u30 u31 u32 u33 u34 u35 u36 u37 u38 u39 u40 u41 u42 u43 u44 u45 u46 u47 u48 u49 u50 u51 u52 u53 u54 u55 u56 u57 u58 u59 u60 u61 u62 u63 u64 u65 u66 u67 u68 u69 u70 u71 u72 u73 u74 u75 u76 u77 u78 u79 u80 u81 u82 u83 u84 u85 u86 u87 u88 u89 u90 u91 u92 u93 u94 u95 u96 u97 u98 u99 u100 u101 u102 u103 u104 u105 u106 u107 u108 u109 u110 u111 u112 u113 u114 u115 u116 u117 u118 u119 u120 u121 u122 u123 u124 u125 u126 u127 u128 u129 u130 u131 u132 u133 u134 u135 u136 u137 u138 u139 u140 u141 u142 u143 u144 u145 u146 u147 u148 u149 u150 u151 u152 u153 u154 u155 u156 u157 u158 u159 u160 u161 u162 u163 u164 u165 u166 u167 u168 u169 u170 u171 u172 u173 u174 u175 u176 u177 u178 u179 u180 u181 u182 u183 u184 u185 u186 u187 u188 u189 u190 u191 u192 u193 u194 u195 u196 u197 u198 u199 u200 u201 u202 u203 u204 u205 u206 u207 u208 u209 u210 u211 u212 u213 u214 u215 u216 u217 u218 u219 u220 u221 u222 u223 u224 u225 u226 u227 u228 u229 u230 u231 u232 u233 u234 u235 u236 u237 u238 u239 u240 u241 u242 u243 u244 u245 u246 u247 u248 u249 u250 u251 u252 u253 u254 u255 u256 u257 u258 u259 u260 : Value) :
    Code.wp Try.prog ((Try.f7.body.bind (tailAt 44)).getD .skip) (bodyPost Try.prog Try.f7 (ModelPost t n w)) ⟨#[.slice (some ⟨b, off, none⟩) n c, u1, u2, u3, .int .i64 ((n : Int)), .int .i64 ((pEe t n : Int)), .bool (pNeg t n), .int .i64 ((pWs t n : Int)), .int .i64 ((pWe t n : Int)), .int .i64 ((pFs t n : Int)), .int .i64 ((pFe t n : Int)), .int .i64 (mEx t n), u12, u13, u14, u15, u16, u17, u18, u19, u20, u21, u22, u23, u24, u25, u26, u27, u28, u29, u30, u31, u32, u33, u34, u35, u36, u37, u38, u39, u40, u41, u42, u43, u44, u45, u46, u47, u48, u49, u50, u51, u52, u53, u54, u55, u56, u57, u58, u59, u60, u61, u62, u63, u64, u65, u66, u67, u68, u69, u70, u71, u72, u73, u74, u75, u76, u77, u78, u79, u80, u81, u82, u83, u84, u85, u86, u87, u88, u89, u90, u91, u92, u93, u94, u95, u96, u97, u98, u99, u100, u101, u102, u103, u104, u105, u106, u107, u108, u109, u110, u111, u112, u113, u114, u115, u116, u117, u118, u119, u120, u121, u122, u123, u124, u125, u126, u127, u128, u129, u130, u131, u132, u133, u134, u135, u136, u137, u138, u139, u140, u141, u142, u143, u144, u145, u146, u147, u148, u149, u150, u151, u152, u153, u154, u155, u156, u157, u158, u159, u160, u161, u162, u163, u164, u165, u166, u167, u168, u169, u170, u171, u172, u173, u174, u175, u176, u177, u178, u179, u180, u181, u182, u183, u184, u185, u186, u187, u188, u189, u190, u191, u192, u193, u194, u195, u196, u197, u198, u199, u200, u201, u202, u203, u204, u205, u206, u207, u208, u209, u210, u211, u212, u213, u214, u215, u216, u217, u218, u219, u220, u221, u222, u223, u224, u225, u226, u227, u228, u229, u230, u231, u232, u233, u234, u235, u236, u237, u238, u239, u240, u241, u242, u243, u244, u245, u246, u247, u248, u249, u250, u251, u252, u253, u254, u255, u256, u257, u258, u259, u260], []⟩ w := by
  conv => arg 2; whnf
  have l1 := pWe_le t n
  have l2 := pFe_le t n
  have l3 := pFs_le_Fe t n
  have l4 := pEe_le t n
  have l5 := pWs_le_We t n
  by_cases hend : pEe t n = n
  · have OK : Aside (okNum t n ∧ pEe t n = n) := ⟨⟨LT.out, DD.out, XX.out⟩, hend⟩
    have hb : ((pEe t n : Int) != (n : Int)) = false := by rw [hend]; simp
    clear hend l4
    have hcw : (pWe t n : Int) - (pWs t n : Int) = (cWl t n : Int) := by unfold cWl; omega
    have hcf : (pFe t n : Int) - (pFs t n : Int) = (cFl t n : Int) := by unfold cFl; omega
    have hcc : (cWl t n : Int) + (cFl t n : Int) = (cCount t n : Int) := by unfold cCount; omega
    have HC : Aside ((pWe t n : Int) - (pWs t n : Int) = (cWl t n : Int) ∧ (pFe t n : Int) - (pFs t n : Int) = (cFl t n : Int) ∧ (cWl t n : Int) + (cFl t n : Int) = (cCount t n : Int)) := ⟨hcw, hcf, hcc⟩
    have hcnt := count_le (t := t) (n := n)
    clear hcw hcf hcc
    go_upto_block 6 with fail
    rw [HC.out.1, HC.out.2.1, HC.out.2.2]
    go_cut [17, 18] (fun s17 s18 wc => (((∀ i, i < cCount t n → cD t n i = 48) ∧ s17 = .int .i64 (-1) ∧ s18 = .int .i64 (-1)) ∨ ∃ a z : Nat, NZ (cD t n) (cCount t n) a z ∧ s17 = .int .i64 a ∧ s18 = .int .i64 z) ∧ w = wc)
    case first =>
      go_wp2_with fail
      go_loopg [17, 18, 19] (cCount t n + 1) (fun g s17 s18 s19 wr => ∃ k : Nat, s19 = .int .i64 k ∧ k ≤ cCount t n ∧ cCount t n + 1 - k ≤ g ∧ (((∀ i, i < k → cD t n i = 48) ∧ s17 = .int .i64 (-1) ∧ s18 = .int .i64 (-1)) ∨ ∃ a z : Nat, NZ (cD t n) k a z ∧ s17 = .int .i64 a ∧ s18 = .int .i64 z) ∧ w = wr)
      case atStart => exact ⟨0, rfl, Nat.zero_le _, by omega, .inl ⟨fun i h => absurd h (Nat.not_lt_zero _), rfl, rfl⟩, rfl⟩
      case round =>
        obtain ⟨k, rfl, hk, hg, hst, rfl⟩ := hrel
        by_cases hkl : k < cCount t n
        · have hcon := mant_at b off n c k t w TT.out hm hkl
          have H : Hid _ := hcon
          clear hcon
          by_cases hd : cD t n k = 48
          · have HD : Aside (cD t n k = 48) := hd
            rw [hd] at H
            clear hd
            rcases hst with ⟨hz, rfl, rfl⟩ | ⟨a, z, hnz, rfl, rfl⟩
            · have HZ : Aside (∀ i, i < k → cD t n i = 48) := hz
              clear hz
              go_wp2_with (go_at_call 13; refine Calls.mono H.out ?_; rintro _ w' ⟨rfl, rfl⟩)
              go_roundg (cCount t n + 1 - (k + 1))
              case measure => omega
              case rel => exact ⟨k + 1, by go_num, by omega, by omega, .inl ⟨fun i hi => by by_cases e : i = k; subst e; exact HD.out; exact HZ.out i (by omega), rfl, rfl⟩, rfl⟩
            · have HZ : Aside (NZ (cD t n) k a z) := hnz
              clear hnz
              go_wp2_with (go_at_call 13; refine Calls.mono H.out ?_; rintro _ w' ⟨rfl, rfl⟩)
              go_roundg (cCount t n + 1 - (k + 1))
              case measure => omega
              case rel => exact ⟨k + 1, by go_num, by omega, by omega, .inr ⟨a, z, HZ.out.skip HD.out, rfl, rfl⟩, rfl⟩
          · have HD : Aside (cD t n k ≠ 48) := hd
            have hb2 : (cD t n k != 48) = true := by rw [bne_iff_ne]; exact hd
            clear hd
            generalize cD t n k = y at H hb2
            rcases hst with ⟨hz, rfl, rfl⟩ | ⟨a, z, hnz, rfl, rfl⟩
            · have HZ : Aside (∀ i, i < k → cD t n i = 48) := hz
              clear hz
              go_wp2_with (go_at_call 13; refine Calls.mono H.out ?_; rintro _ w' ⟨rfl, rfl⟩)
              go_roundg (cCount t n + 1 - (k + 1))
              case measure => omega
              case rel => exact ⟨k + 1, by go_num, by omega, by omega, .inr ⟨k, k, nz_first HZ.out HD.out, rfl, rfl⟩, rfl⟩
            · have HZ : Aside (NZ (cD t n) k a z) := hnz
              clear hnz
              go_wp2_with (go_at_call 13; refine Calls.mono H.out ?_; rintro _ w' ⟨rfl, rfl⟩)
              go_roundg (cCount t n + 1 - (k + 1))
              case measure => omega
              case rel => exact ⟨k + 1, by go_num, by omega, by omega, .inr ⟨a, k, HZ.out.next HD.out, rfl, rfl⟩, rfl⟩
        · have ek : Aside (k = cCount t n) := by show k = cCount t n; omega
          have HST : Aside _ := hst
          clear hst
          go_wp2_with fail
          go_meet
          case rel => exact ⟨by have h := HST.out; rw [ek.out] at h; exact h, rfl⟩
    case rest =>
      obtain ⟨hst, rfl⟩ := hcut
      clear hb l1 l2 l3 l5
      rcases hst with ⟨hz, rfl, rfl⟩ | ⟨a, z, hnz, rfl, rfl⟩
      · go_step
        exact tail58z b off n c t w TT hn hm OK hz _ _ _ _ _ _ _ _ _ _ _ _ _ _ _ _ _ _ _ _ _ _ _ _ _ _ _ _ _ _ _ _ _ _ _ _ _ _ _ _ _ _ _ _ _ _ _ _ _ _ _ _ _ _ _ _ _ _ _ _ _ _ _ _ _ _ _ _ _ _ _ _ _ _ _ _ _ _ _ _ _ _ _ _ _ _ _ _ _ _ _ _ _ _ _ _ _ _ _ _ _ _ _ _ _ _ _ _ _ _ _ _ _ _ _ _ _ _ _ _ _ _ _ _ _ _ _ _ _ _ _ _ _ _ _ _ _ _ _ _ _ _ _ _ _ _ _ _ _ _ _ _ _ _ _ _ _ _ _ _ _ _ _ _ _ _ _ _ _ _ _ _ _ _ _ _ _ _ _ _ _ _ _ _ _ _ _ _ _ _ _ _ _ _ _ _ _ _ _ _ _ _ _ _ _ _ _ _ _ _ _ _ _ _ _ _ _ _ _ _ _ _ _ _ _ _ _ _ _ _ _ _ _ _ _ _ _ _ _ _ _ _ _ _ _ _ _ _ _ _ _
      · go_step
        exact tail58n b off n c t w TT hn hm a z OK hnz _ _ _ _ _ _ _ _ _ _ _ _ _ _ _ _ _ _ _ _ _ _ _ _ _ _ _ _ _ _ _ _ _ _ _ _ _ _ _ _ _ _ _ _ _ _ _ _ _ _ _ _ _ _ _ _ _ _ _ _ _ _ _ _ _ _ _ _ _ _ _ _ _ _ _ _ _ _ _ _ _ _ _ _ _ _ _ _ _ _ _ _ _ _ _ _ _ _ _ _ _ _ _ _ _ _ _ _ _ _ _ _ _ _ _ _ _ _ _ _ _ _ _ _ _ _ _ _ _ _ _ _ _ _ _ _ _ _ _ _ _ _ _ _ _ _ _ _ _ _ _ _ _ _ _ _ _ _ _ _ _ _ _ _ _ _ _ _ _ _ _ _ _ _ _ _ _ _ _ _ _ _ _ _ _ _ _ _ _ _ _ _ _ _ _ _ _ _ _ _ _ _ _ _ _ _ _ _ _ _ _ _ _ _ _ _ _ _ _ _ _ _ _ _ _ _ _ _ _ _ _ _ _ _ _ _ _ _ _ _ _ _ _ _ _ _ _ _ _ _ _
  · have hfail : Aside (IntOut t n 0 false) := m_fail (fun h => hend h.2)
    have hb : ((pEe t n : Int) != (n : Int)) = true := by rw [bne_iff_ne]; omega
    go_wp2_with fail
    go_ret2
    exact ModelPost.mk (v := 0) (ok := false) rfl hfail.out


end Go.Proofs.Qxb6629257a.W
