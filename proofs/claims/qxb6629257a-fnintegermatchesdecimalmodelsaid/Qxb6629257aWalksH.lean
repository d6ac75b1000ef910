import Derived.Test.Qxb6629257aWalksG
namespace Go.Proofs.Qxb6629257a.W
open Go.RowKit
set_option linter.unusedVariables false
set_option maxRecDepth 100000

set_option maxHeartbeats 4000000 in
theorem tail58n (b off n c : Nat) (t : Nat → Int) (w : World) (TT : Aside (Text w b off n t)) (hn : 0 < n) (hm : n ≤ 10000000) (a z : Nat) (OK : Aside (okNum t n ∧ pEe t n = n)) (NZ0 : Aside (NZ (cD t n) (cCount t n) a z)) (u1 u2 u3 u4 u5 u8 u10 u12 u13 u19 u20 u21 u22 u23 u24 u25 u26 u27 u28 u29 u30 u31 u32 u33 u34 u35 u36 u37 u38 u39 u40 u41 u42 u43 u44 u45 u46 u47 u48 u49 u50 u51 u52 u53 u54 u55 u56 u57 u58 u59 u60 u61 u62 u63 u64 u65 u66 u67 u68 u69 u70 u71 u72 u73 u74 u75 u76 u77 u78 u79 u80 u81 u82 u83 u84 u85 u86 u87 u88 u89 u90 u91 u92 u93 u94 u95 u96 u97 u98 u99 u100 u101 u102 u103 u104 u105 u106 u107 u108 u109 u110 u111 u112 u113 u114 u115 u116 u117 u118 u119 u120 u121 u122 u123 u124 u125 u126 u127 u128 u129 u130 u131 u132 u133 u134 u135 u136 u137 u138 u139 u140 u141 u142 u143 u144 u145 u146 u147 u148 u149 u150 u151 u152 u153 u154 u155 u156 u157 u158 u159 u160 u161 u162 u163 u164 u165 u166 u167 u168 u169 u170 u171 u172 u173 u174 u175 u176 u177 u178 u179 u180 u181 u182 u183 u184 u185 u186 u187 u188 u189 u190 u191 u192 u193 u194 u195 u196 u197 u198 u199 u200 u201 u202 u203 u204 u205 u206 u207 u208 u209 u210 u211 u212 u213 u214 u215 u216 u217 u218 u219 u220 u221 u222 u223 u224 u225 u226 u227 u228 u229 u230 u231 u232 u233 u234 u235 u236 u237 u238 u239 u240 u241 u242 u243 u244 u245 u246 u247 u248 u249 u250 u251 u252 u253 u254 u255 u256 u257 u258 u259 u260 : Value) :
    Code.wp Try.prog ((Try.f7.body.bind (tailAt 58)).getD .skip) (bodyPost Try.prog Try.f7 (ModelPost t n w)) ⟨#[.slice (some ⟨b, off, none⟩) n c, u1, u2, u3, u4, u5, .bool (pNeg t n), .int .i64 ((pWs t n : Int)), u8, .int .i64 ((pFs t n : Int)), u10, .int .i64 (mEx t n), u12, u13, .int .i64 ((cWl t n : Int)), .int .i64 ((cFl t n : Int)), .int .i64 ((cCount t n : Int)), .int .i64 ((a : Int)), .int .i64 ((z : Int)), u19, u20, u21, u22, u23, u24, u25, u26, u27, u28, u29, u30, u31, u32, u33, u34, u35, u36, u37, u38, u39, u40, u41, u42, u43, u44, u45, u46, u47, u48, u49, u50, u51, u52, u53, u54, u55, u56, u57, u58, u59, u60, u61, u62, u63, u64, u65, u66, u67, u68, u69, u70, u71, u72, u73, u74, u75, u76, u77, u78, u79, u80, u81, u82, u83, u84, u85, u86, u87, u88, u89, u90, u91, u92, u93, u94, u95, u96, u97, u98, u99, u100, u101, u102, u103, u104, u105, u106, u107, u108, u109, u110, u111, u112, u113, u114, u115, u116, u117, u118, u119, u120, u121, u122, u123, u124, u125, u126, u127, u128, u129, u130, u131, u132, u133, u134, u135, u136, u137, u138, u139, u140, u141, u142, u143, u144, u145, u146, u147, u148, u149, u150, u151, u152, u153, u154, u155, u156, u157, u158, u159, u160, u161, u162, u163, u164, u165, u166, u167, u168, u169, u170, u171, u172, u173, u174, u175, u176, u177, u178, u179, u180, u181, u182, u183, u184, u185, u186, u187, u188, u189, u190, u191, u192, u193, u194, u195, u196, u197, u198, u199, u200, u201, u202, u203, u204, u205, u206, u207, u208, u209, u210, u211, u212, u213, u214, u215, u216, u217, u218, u219, u220, u221, u222, u223, u224, u225, u226, u227, u228, u229, u230, u231, u232, u233, u234, u235, u236, u237, u238, u239, u240, u241, u242, u243, u244, u245, u246, u247, u248, u249, u250, u251, u252, u253, u254, u255, u256, u257, u258, u259, u260], []⟩ w := by
  conv => arg 2; whnf
  have hle := NZ0.out.le
  have hlt := NZ0.out.lt
  have hcnt := count_le (t := t) (n := n)
  have hcc : (cCount t n : Int) = (cWl t n : Int) + (cFl t n : Int) := by unfold cCount; omega
  have hfl : (cFl t n : Int) ≤ (cCount t n : Int) := by omega
  clear hcc
  have hmx : -1099511627776 ≤ mEx t n ∧ mEx t n ≤ 1099511627776 := by
    have h := expAt_bd (cE t n) 1099511627776 (cM t n) (by omega) cE_dig (cM t n) (Nat.le_refl _)
    unfold mEx exOf
    split <;> omega
  obtain ⟨E, HE⟩ : ∃ E, Aside (mE t n z = E) := ⟨_, rfl⟩
  have hEe : mEx t n - (cFl t n : Int) + ((cCount t n : Int) - 1 - (z : Int)) = E := HE.out
  have HEe : Aside (mEx t n - (cFl t n : Int) + ((cCount t n : Int) - 1 - (z : Int)) = E) := hEe
  clear hEe
  go_upto_region 61 with fail
  rw [HEe.out]
  have hEb : -10000000000000 ≤ E ∧ E ≤ 10000000000000 := by rw [← HEe.out]; omega
  clear hmx
  by_cases hneg : E < 0
  · have hfail : Aside (IntOut t n 0 false) := m_neg hm OK.out.1 OK.out.2 NZ0.out (by rw [HE.out]; exact hneg)
    go_wp2_with fail
    go_ret2
    exact ModelPost.mk (v := 0) (ok := false) rfl hfail.out
  · by_cases hbig : 19 < (z : Int) - (a : Int) + 1 + E
    · have hfail : Aside (IntOut t n 0 false) := m_big hm OK.out.1 OK.out.2 NZ0.out (by rw [HE.out]; omega) (by rw [HE.out]; exact hbig)
      go_wp2_with fail
      go_ret2
      exact ModelPost.mk (v := 0) (ok := false) rfl hfail.out
    · have hsm := m_small hm NZ0.out (by rw [HE.out]; omega) (by rw [HE.out]; omega)
      rw [HE.out] at hsm
      have SM : Aside (cPoint t n = (z : Int) + 1 + E ∧ ∀ k, k ≤ (cPoint t n).toNat → valAt (cD t n) (cCount t n) k ≤ 9999999999999999999) := hsm
      obtain ⟨ej, HJ⟩ : ∃ ej : Nat, Aside (E = (ej : Int)) := ⟨E.toNat, by show E = _; omega⟩
      have hej : (ej : Int) ≤ 18 := by have := HJ.out; omega
      rw [HJ.out]
      have PT : Aside ((cPoint t n).toNat = z + 1 + ej) := by
        show (cPoint t n).toNat = _
        rw [SM.out.1, HJ.out]; omega
      have VB : Aside (∀ k, k ≤ z + 1 + ej → 0 ≤ valAt (cD t n) (cCount t n) k ∧ valAt (cD t n) (cCount t n) k ≤ 9999999999999999999) := fun k hk => ⟨valAt_nn cD_dig k, SM.out.2 k (by rw [PT.out]; exact hk)⟩
      have OV : Aside (∀ u, valAt (cD t n) (cCount t n) (z + 1 + ej) = u → (u ≤ limOf (pNeg t n) → IntOut t n (signed (pNeg t n) u) true) ∧ (limOf (pNeg t n) < u → IntOut t n 0 false)) := fun u hu => m_val hm OK.out.1 OK.out.2 NZ0.out (by rw [HE.out]; omega) (by rw [PT.out]; exact hu)
      have hb2 : ((z : Int) - (a : Int) + 1 + (ej : Int)) ≤ 19 := by
        have h2 := HJ.out
        omega
      clear hsm hneg hbig hEb
      go_upto_block 8 with fail
      go_cut [21] (fun s wc => s = .int .u64 (valAt (cD t n) (cCount t n) (z + 1)) ∧ w = wc)
      case first =>
        go_wp2_with fail
        go_loopg [21, 22] (z + 2) (fun g s21 s22 wr => ∃ k : Nat, s21 = .int .u64 (valAt (cD t n) (cCount t n) k) ∧ s22 = .int .i64 k ∧ a ≤ k ∧ k ≤ z + 1 ∧ z + 2 - k ≤ g ∧ w = wr)
        case atStart => exact ⟨a, by rw [val_lead (count := cCount t n) NZ0.out.lead (by omega) a (Nat.le_refl _)], rfl, Nat.le_refl _, by omega, by omega, rfl⟩
        case round =>
          obtain ⟨k, rfl, rfl, hk1, hk2, hg, rfl⟩ := hrel
          by_cases hkz : k ≤ z
          · have hv1 := VB.out k (by omega)
            have hv2 := VB.out (k + 1) (by omega)
            have hd := cD_dig (t := t) (n := n) k (by omega)
            have hst : valAt (cD t n) (cCount t n) (k + 1) = valAt (cD t n) (cCount t n) k * 10 + (cD t n k - 48) := by
              show valAt (cD t n) (cCount t n) k * 10 + dgt (cD t n) (cCount t n) k = _
              unfold dgt; rw [if_pos (by omega)]
            have ST : Aside (valAt (cD t n) (cCount t n) (k + 1) = valAt (cD t n) (cCount t n) k * 10 + (cD t n k - 48)) := hst
            rw [hst] at hv2
            clear hst
            have hcon := mant_at b off n c k t w TT.out hm (by omega)
            have H : Hid _ := hcon
            clear hcon
            generalize valAt (cD t n) (cCount t n) k = x at hv1 hv2 ST ⊢
            generalize cD t n k = y at hv2 hd ST H
            go_wp2_with (go_at_call 13; refine Calls.mono H.out ?_; rintro _ w' ⟨rfl, rfl⟩)
            go_roundg (z + 2 - (k + 1))
            case measure => omega
            case rel => exact ⟨k + 1, by rw [ST.out], by go_num, by omega, by omega, by omega, rfl⟩
          · have ek : Aside (k = z + 1) := by show k = z + 1; omega
            go_wp2_with fail
            go_meet
            case rel => exact ⟨by rw [ek.out], rfl⟩
      case rest =>
        obtain ⟨rfl, rfl⟩ := hcut
        go_upto_block 10 with fail
        go_cut [21] (fun s wc => s = .int .u64 (valAt (cD t n) (cCount t n) (z + 1 + ej)) ∧ w = wc)
        case first =>
          go_wp2_with fail
          go_loopg [21, 23] (ej + 1) (fun g s21 s23 wr => ∃ j : Nat, s21 = .int .u64 (valAt (cD t n) (cCount t n) (z + 1 + j)) ∧ s23 = .int .i64 j ∧ j ≤ ej ∧ ej + 1 - j ≤ g ∧ w = wr)
          case atStart => exact ⟨0, rfl, rfl, Nat.zero_le _, by omega, rfl⟩
          case round =>
            obtain ⟨j, rfl, rfl, hj, hg, rfl⟩ := hrel
            by_cases hjl : j < ej
            · have hv1 := VB.out (z + 1 + j) (by omega)
              have hv2 := VB.out (z + 1 + j + 1) (by omega)
              have hst : valAt (cD t n) (cCount t n) (z + 1 + j + 1) = valAt (cD t n) (cCount t n) (z + 1 + j) * 10 := by
                show valAt (cD t n) (cCount t n) (z + 1 + j) * 10 + dgt (cD t n) (cCount t n) (z + 1 + j) = _
                have : dgt (cD t n) (cCount t n) (z + 1 + j) = 0 := by
                  unfold dgt
                  split
                  · rename_i hh; rw [NZ0.out.tail _ (by omega) hh]; rfl
                  · rfl
                omega
              have ST : Aside (valAt (cD t n) (cCount t n) (z + 1 + (j + 1)) = valAt (cD t n) (cCount t n) (z + 1 + j) * 10) := hst
              rw [hst] at hv2
              clear hst
              generalize valAt (cD t n) (cCount t n) (z + 1 + j) = x at hv1 hv2 ST ⊢
              go_wp2_with fail
              go_roundg (ej + 1 - (j + 1))
              case measure => omega
              case rel => exact ⟨j + 1, by rw [ST.out], by go_num, by omega, by omega, rfl⟩
            · have ek : Aside (j = ej) := by show j = ej; omega
              go_wp2_with fail
              go_meet
              case rel => exact ⟨by rw [ek.out], rfl⟩
        case rest =>
          obtain ⟨rfl, rfl⟩ := hcut
          have hv := VB.out (z + 1 + ej) (Nat.le_refl _)
          have hov := OV.out _ rfl
          have OV2 : Aside ((valAt (cD t n) (cCount t n) (z + 1 + ej) ≤ limOf (pNeg t n) → IntOut t n (signed (pNeg t n) (valAt (cD t n) (cCount t n) (z + 1 + ej))) true) ∧ (limOf (pNeg t n) < valAt (cD t n) (cCount t n) (z + 1 + ej) → IntOut t n 0 false)) := hov
          clear hov OV VB SM PT
          generalize valAt (cD t n) (cCount t n) (z + 1 + ej) = u at hv OV2 ⊢
          cases hng : pNeg t n with
          | true =>
            rw [hng] at OV2
            have hlim : limOf true = 9223372036854775808 := rfl
            rw [hlim] at OV2
            clear hlim hng
            by_cases h1 : 9223372036854775808 < u
            · have hfail : Aside (IntOut t n 0 false) := OV2.out.2 h1
              go_wp2_with fail
              go_ret2
              exact ModelPost.mk (v := 0) (ok := false) rfl hfail.out
            · by_cases h2 : u = 9223372036854775808
              · have hgood : Aside (IntOut t n (signed true u) true) := OV2.out.1 (by omega)
                have H2 : Aside (u = 9223372036854775808) := h2
                have hb : (u == 9223372036854775808) = true := beq_iff_eq.2 h2
                clear h2
                go_wp2_with fail
                go_ret2
                exact ModelPost.mk (v := -9223372036854775808) (ok := true) rfl (by have := hgood.out; rw [H2.out] at this; exact this)
              · have hgood : Aside (IntOut t n (signed true u) true) := OV2.out.1 (by omega)
                have hb : (u == 9223372036854775808) = false := beq_eq_false_iff_ne.2 h2
                have hu : u ≤ 9223372036854775807 := by omega
                clear h2
                go_wp2_with fail
                go_ret2
                exact ModelPost.mk (v := -u) (ok := true) rfl hgood.out
          | false =>
            rw [hng] at OV2
            have hlim : limOf false = 9223372036854775807 := rfl
            rw [hlim] at OV2
            clear hlim hng
            by_cases h1 : 9223372036854775807 < u
            · have hfail : Aside (IntOut t n 0 false) := OV2.out.2 h1
              go_wp2_with fail
              go_ret2
              exact ModelPost.mk (v := 0) (ok := false) rfl hfail.out
            · have hgood : Aside (IntOut t n (signed false u) true) := OV2.out.1 (by omega)
              go_wp2_with fail
              go_ret2
              exact ModelPost.mk (v := u) (ok := true) rfl hgood.out


set_option maxHeartbeats 4000000 in
theorem tail58z (b off n c : Nat) (t : Nat → Int) (w : World) (TT : Aside (Text w b off n t)) (hn : 0 < n) (hm : n ≤ 10000000) (OK : Aside (okNum t n ∧ pEe t n = n)) (Z0 : Aside (∀ i, i < cCount t n → cD t n i = 48)) (u1 u2 u3 u4 u5 u8 u10 u12 u13 u19 u20 u21 u22 u23 u24 u25 u26 u27 u28 u29 u30 u31 u32 u33 u34 u35 u36 u37 u38 u39 u40 u41 u42 u43 u44 u45 u46 u47 u48 u49 u50 u51 u52 u53 u54 u55 u56 u57 u58 u59 u60 u61 u62 u63 u64 u65 u66 u67 u68 u69 u70 u71 u72 u73 u74 u75 u76 u77 u78 u79 u80 u81 u82 u83 u84 u85 u86 u87 u88 u89 u90 u91 u92 u93 u94 u95 u96 u97 u98 u99 u100 u101 u102 u103 u104 u105 u106 u107 u108 u109 u110 u111 u112 u113 u114 u115 u116 u117 u118 u119 u120 u121 u122 u123 u124 u125 u126 u127 u128 u129 u130 u131 u132 u133 u134 u135 u136 u137 u138 u139 u140 u141 u142 u143 u144 u145 u146 u147 u148 u149 u150 u151 u152 u153 u154 u155 u156 u157 u158 u159 u160 u161 u162 u163 u164 u165 u166 u167 u168 u169 u170 u171 u172 u173 u174 u175 u176 u177 u178 u179 u180 u181 u182 u183 u184 u185 u186 u187 u188 u189 u190 u191 u192 u193 u194 u195 u196 u197 u198 u199 u200 u201 u202 u203 u204 u205 u206 u207 u208 u209 u210 u211 u212 u213 u214 u215 u216 u217 u218 u219 u220 u221 u222 u223 u224 u225 u226 u227 u228 u229 u230 u231 u232 u233 u234 u235 u236 u237 u238 u239 u240 u241 u242 u243 u244 u245 u246 u247 u248 u249 u250 u251 u252 u253 u254 u255 u256 u257 u258 u259 u260 : Value) :
    Code.wp Try.prog ((Try.f7.body.bind (tailAt 58)).getD .skip) (bodyPost Try.prog Try.f7 (ModelPost t n w)) ⟨#[.slice (some ⟨b, off, none⟩) n c, u1, u2, u3, u4, u5, .bool (pNeg t n), .int .i64 ((pWs t n : Int)), u8, .int .i64 ((pFs t n : Int)), u10, .int .i64 (mEx t n), u12, u13, .int .i64 ((cWl t n : Int)), .int .i64 ((cFl t n : Int)), .int .i64 ((cCount t n : Int)), .int .i64 ((-1 : Int)), .int .i64 ((-1 : Int)), u19, u20, u21, u22, u23, u24, u25, u26, u27, u28, u29, u30, u31, u32, u33, u34, u35, u36, u37, u38, u39, u40, u41, u42, u43, u44, u45, u46, u47, u48, u49, u50, u51, u52, u53, u54, u55, u56, u57, u58, u59, u60, u61, u62, u63, u64, u65, u66, u67, u68, u69, u70, u71, u72, u73, u74, u75, u76, u77, u78, u79, u80, u81, u82, u83, u84, u85, u86, u87, u88, u89, u90, u91, u92, u93, u94, u95, u96, u97, u98, u99, u100, u101, u102, u103, u104, u105, u106, u107, u108, u109, u110, u111, u112, u113, u114, u115, u116, u117, u118, u119, u120, u121, u122, u123, u124, u125, u126, u127, u128, u129, u130, u131, u132, u133, u134, u135, u136, u137, u138, u139, u140, u141, u142, u143, u144, u145, u146, u147, u148, u149, u150, u151, u152, u153, u154, u155, u156, u157, u158, u159, u160, u161, u162, u163, u164, u165, u166, u167, u168, u169, u170, u171, u172, u173, u174, u175, u176, u177, u178, u179, u180, u181, u182, u183, u184, u185, u186, u187, u188, u189, u190, u191, u192, u193, u194, u195, u196, u197, u198, u199, u200, u201, u202, u203, u204, u205, u206, u207, u208, u209, u210, u211, u212, u213, u214, u215, u216, u217, u218, u219, u220, u221, u222, u223, u224, u225, u226, u227, u228, u229, u230, u231, u232, u233, u234, u235, u236, u237, u238, u239, u240, u241, u242, u243, u244, u245, u246, u247, u248, u249, u250, u251, u252, u253, u254, u255, u256, u257, u258, u259, u260], []⟩ w := by
  conv => arg 2; whnf
  have hgood : Aside (IntOut t n 0 true) := m_zero OK.out.1 OK.out.2 Z0.out
  go_wp2_with fail
  go_ret2
  exact ModelPost.mk (v := 0) (ok := true) rfl hgood.out


end Go.Proofs.Qxb6629257a.W
