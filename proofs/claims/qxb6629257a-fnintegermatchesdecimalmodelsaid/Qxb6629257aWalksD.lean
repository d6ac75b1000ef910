import Derived.Test.Qxb6629257aWalksB
import Derived.Test.Qxb6629257aWalksC
namespace Go.Proofs.Qxb6629257a.W
open Go.RowKit
set_option linter.unusedVariables false
set_option maxRecDepth 100000

def cWl (t : Nat → Int) (n : Nat) : Nat := pWe t n - pWs t n
def cFl (t : Nat → Int) (n : Nat) : Nat := pFe t n - pFs t n
def cCount (t : Nat → Int) (n : Nat) : Nat := cWl t n + cFl t n
def cD (t : Nat → Int) (n : Nat) (i : Nat) : Int := if i < cWl t n then t (pWs t n + i) else t (pFs t n + (i - cWl t n))
def cE (t : Nat → Int) (n : Nat) (k : Nat) : Int := t (pDs t n + k)
def cM (t : Nat → Int) (n : Nat) : Nat := pEe t n - pDs t n
def cSgn (t : Nat → Int) (n : Nat) : Bool := pExp t n && pMinus t n
/-- Where the point lies in the row. -/
def cPoint (t : Nat → Int) (n : Nat) : Int := (cWl t n : Int) + exOf (cSgn t n) (expAt (cE t n) ((cWl t n : Int) + (cFl t n : Int) + 20) (cM t n))

/-- What Integer answers. -/
def IntOut (t : Nat → Int) (n : Nat) (v : Int) (ok : Bool) : Prop :=
  (¬ (okNum t n ∧ pEe t n = n) ∧ v = 0 ∧ ok = false) ∨
  (okNum t n ∧ pEe t n = n ∧ IntRes (pNeg t n) (cD t n) (cCount t n) (cPoint t n) v ok)

theorem cD_dig {t : Nat → Int} {n : Nat} : ∀ i, i < cCount t n → 48 ≤ cD t n i ∧ cD t n i ≤ 57 := by
  intro i hi
  unfold cCount at hi
  unfold cD
  by_cases h : i < cWl t n
  · rw [if_pos h]
    cases hz : pZero t n with
    | true =>
      have e : cWl t n = 1 := by unfold cWl pWe; rw [if_pos hz]; omega
      have : i = 0 := by omega
      subst this
      unfold pZero at hz
      simp at hz
      rw [Nat.add_zero, hz.2]
      omega
    | false => exact (pWe_run t n hz).dig _ (by omega) (by unfold cWl at h; omega)
  · rw [if_neg h]
    cases hd : pDot t n with
    | true => exact (pFe_run t n hd).dig _ (by omega) (by unfold cFl at hi; omega)
    | false =>
      have e : cFl t n = 0 := by unfold cFl pFe pFs; rw [if_neg (by simp [hd]), if_neg (by simp [hd])]; omega
      omega

theorem cM_exp {t : Nat → Int} {n : Nat} (h : pExp t n = false) : cM t n = 0 := by
  have := pFe_le_Es t n
  have := pEs_le_Ds t n
  unfold cM pEe
  rw [if_neg (by simp [h])]
  omega

theorem cE_dig {t : Nat → Int} {n : Nat} : ∀ k, k < cM t n → 48 ≤ cE t n k ∧ cE t n k ≤ 57 := by
  intro k hk
  cases hx : pExp t n with
  | true => exact (pEe_run t n hx).dig _ (by omega) (by unfold cM at hk; omega)
  | false => rw [cM_exp hx] at hk; omega

theorem text_row {w : World} {b off n c : Nat} {t : Nat → Int} (T : Text w b off n t) (fa : Option Addr) (hfa : pDot t n = true → fa = some ⟨b, off + pFs t n, none⟩) :
    RowOf w (some ⟨b, off + pWs t n, none⟩) (cWl t n) fa (cFl t n) (cD t n) := by
  refine ⟨fun i hi => ⟨b, _, rfl, ?_⟩, fun i hi => ?_⟩
  · have := pWe_le t n
    rw [Nat.add_assoc]
    have e : cD t n i = t (pWs t n + i) := by unfold cD; rw [if_pos hi]
    rw [e]
    exact T.cells _ (by unfold cWl at hi; omega)
  · cases hd : pDot t n with
    | false =>
      have e : cFl t n = 0 := by unfold cFl pFe pFs; rw [if_neg (by simp [hd]), if_neg (by simp [hd])]; omega
      omega
    | true =>
      refine ⟨b, _, hfa hd, ?_⟩
      have := pFe_le t n
      rw [Nat.add_assoc]
      have e : cD t n (cWl t n + i) = t (pFs t n + i) := by unfold cD; rw [if_neg (by omega), show cWl t n + i - cWl t n = i from by omega]
      rw [e]
      exact T.cells _ (by unfold cFl at hi; omega)

theorem text_exp {w : World} {b off n : Nat} {t : Nat → Int} (T : Text w b off n t) (hok : okNum t n) (hx : pExp t n = true) :
    ExpOf w (some ⟨b, off + pEs t n, none⟩) (pEe t n - pEs t n) (cM t n) (cE t n) (pPlus t n || pMinus t n) (cSgn t n) := by
  have hlt := hok.2.2 hx
  have hle := pEe_le t n
  cases hs : (pPlus t n || pMinus t n) with
  | false =>
    have hp : pMinus t n = false := by cases h1 : pPlus t n <;> cases h2 : pMinus t n <;> simp_all
    have e : pDs t n = pEs t n := by unfold pDs; rw [if_neg (by simp [hs])]
    refine .inr (.inl ⟨b, _, rfl, rfl, by simp [cSgn, hp], by unfold cM; rw [e], by unfold cM; omega, fun k hk => ?_⟩)
    unfold cM at hk
    unfold cE
    rw [Nat.add_assoc, e]
    exact T.cells _ (by omega)
  | true =>
    have e : pDs t n = pEs t n + 1 := by unfold pDs; rw [if_pos hs]
    refine .inr (.inr ⟨b, _, t (pEs t n), rfl, rfl, T.cells _ (by omega), ?_, by unfold cM; omega, by unfold cM; omega, fun k hk => ?_⟩)
    · cases h2 : pMinus t n with
      | true =>
        refine .inr ⟨?_, by simp [cSgn, hx, h2]⟩
        unfold pMinus at h2
        simp at h2
        exact h2.2
      | false =>
        refine .inl ⟨?_, by simp [cSgn, h2]⟩
        have h1 : pPlus t n = true := by simpa [h2] using hs
        unfold pPlus at h1
        simp at h1
        exact h1.2
    · unfold cM at hk
      unfold cE
      rw [Nat.add_assoc, Nat.add_assoc, e]
      rw [show pEs t n + (1 + k) = pEs t n + 1 + k from by omega]
      exact T.cells _ (by omega)

set_option maxHeartbeats 1000000 in
theorem number_empty (C c : Nat) (a : Option Addr) (w : World) (h : At w C a 0 c 0) (hC : C < w.heap.size) :
    Calls Try.prog 10 #[.pointer (some ⟨C, 0, none⟩)] w fun e w' => ∃ (x : Bool) (a1 : Option Addr) (n1 c1 : Nat) (a2 : Option Addr) (n2 c2 : Nat) (a3 : Option Addr) (n3 c3 i : Nat), e = .returned (.tuple #[.agg #[.bool x, .slice a1 n1 c1, .slice a2 n2 c2, .slice a3 n3 c3], .bool false]) ∧ NOut w w' C i := by
  have S0 : Aside (NS w ((w.alloc (Obj.cells #[.bool false, .slice none 0 0, .slice none 0 0, .slice none 0 0] 35)).alloc (Obj.cells #[.bool false, .slice none 0 0, .slice none 0 0, .slice none 0 0] 35)) C a 0 c 0 (.bool false) (.slice none 0 0) (.slice none 0 0) (.slice none 0 0)) := by
    have B : Below w.heap.size w ((w.alloc (Obj.cells #[.bool false, .slice none 0 0, .slice none 0 0, .slice none 0 0] 35)).alloc (Obj.cells #[.bool false, .slice none 0 0, .slice none 0 0, .slice none 0 0] 35)) := ((Below.refl _ _).alloc (Nat.le_refl _) _).alloc (by simp) _
    refine ⟨⟨(B.cell hC).trans h.data, (B.cell hC).trans h.next, (B.frozen hC).trans h.frz⟩, rfl, rfl, rfl, by simp, fun k a _ => B.block k a, ?_, ?_, hC⟩
    · rw [Below.heap_alloc _ _ _ (by simp)]; exact Go.Deep.blk_alloc_new _ _
    · rw [show w.heap.size + 1 = (w.alloc (Obj.cells #[.bool false, .slice none 0 0, .slice none 0 0, .slice none 0 0] 35)).heap.size from by simp]; exact Go.Deep.blk_alloc_new _ _
  clear h
  go_enter Try.func10, Try.ntmps10
  go_wp2_with fail
  refine (skip_end C 0 c 0 a 45 _ S0.out.here (by omega) (Nat.le_refl _)).mono ?_
  rintro _ w1 ⟨rfl, m1⟩
  have S1 := S0.out.moved m1
  have S2 := S1.setN 0 (.bool false) rfl
  have q0 := cell_of_cells (k := 0) S1.num rfl
  have q1 := frozen_of_cells (k := 0) S1.num
  have A2 : Aside (NS w (w1.setCell ⟨w.heap.size + 1, 0, none⟩ (.bool false)) C a 0 c 0 (.bool false) (.slice none 0 0) (.slice none 0 0) (.slice none 0 0)) := S2
  have hx := S2.here.next
  clear S0 m1 S1 S2
  go_wp2_with fail
  clear q0 q1 hx
  refine (skip_end C 0 c 0 a 48 _ A2.out.here (by omega) (Nat.le_refl _)).mono ?_
  rintro _ w3 ⟨rfl, m3⟩
  have A3 : Aside (NS w w3 C a 0 c 0 (.bool false) (.slice none 0 0) (.slice none 0 0) (.slice none 0 0)) := A2.out.moved m3
  clear m3 A2
  go_wp2_with fail
  refine (digits_end C 0 c 0 a _ A3.out.here (by omega) (Nat.le_refl _) (by omega)).mono ?_
  rintro _ w4 ⟨rfl, m4⟩
  have A4 : Aside (NS w w4 C a 0 c 0 (.bool false) (.slice none 0 0) (.slice none 0 0) (.slice none 0 0)) := A3.out.moved m4
  clear m4 A3
  obtain ⟨e0, e1, e2, e3, r0, r1, r2, r3, f0, f1, f2, f3⟩ := A4.out.facts
  go_wp2_with fail
  exact bodyPost_ret (v := .tuple #[.agg #[.bool false, .slice none 0 0, .slice none 0 0, .slice none 0 0], .bool false]) (by simp [results, Try.results10, go_sem, r0, r1, r2, r3]) rfl ⟨_, _, _, _, _, _, _, _, _, _, _, rfl, A4.out.done⟩

/-- The walker as Integer makes it. -/
theorem new_walker (w : World) (a : Option Addr) (n c : Nat) :
    At (w.alloc (.cells #[.slice a n c, .int .i64 0, .int .i64 0, .nilIface, .bool false, .slice none 0 0] 33)) w.heap.size a n c 0 :=
  ⟨by simp, by simp, by simp⟩

theorem NOut.below {w w' : World} {o : Obj} {i : Nat} (h : NOut (w.alloc o) w' w.heap.size i) : Below w.heap.size w w' :=
  ⟨h.os, h.tape, h.output, by have := h.size; simp at this; omega, fun k hk => (h.old k (by simp; omega) (by omega)).trans (Below.heap_alloc _ _ _ hk)⟩

set_option maxHeartbeats 1000000 in
theorem Integer_fail (a : Option Addr) (n c : Nat) (w : World) (hm : n ≤ 10000000)
    (hcon : Calls Try.prog 10 #[.pointer (some ⟨w.heap.size, 0, none⟩)] (w.alloc (.cells #[.slice a n c, .int .i64 0, .int .i64 0, .nilIface, .bool false, .slice none 0 0] 33)) fun e w' => ∃ (x : Bool) (a1 : Option Addr) (n1 c1 : Nat) (a2 : Option Addr) (n2 c2 : Nat) (a3 : Option Addr) (n3 c3 i : Nat), e = .returned (.tuple #[.agg #[.bool x, .slice a1 n1 c1, .slice a2 n2 c2, .slice a3 n3 c3], .bool false]) ∧ NOut (w.alloc (.cells #[.slice a n c, .int .i64 0, .int .i64 0, .nilIface, .bool false, .slice none 0 0] 33)) w' w.heap.size i) :
    Calls Try.prog 6 #[.slice a n c] w fun e w' => e = .returned (.tuple #[.int .i64 0, .bool false]) ∧ Below w.heap.size w w' := by
  have H : Hid _ := hcon
  clear hcon
  go_enter Try.func6, Try.ntmps6
  go_wp2_with fail
  refine Calls.mono H.out ?_
  rintro _ w1 ⟨x, a1, n1, c1, a2, n2, c2, a3, n3, c3, i, rfl, ho⟩
  have O : Aside (Below w.heap.size w w1) := ho.below
  clear ho H
  go_wp2_with fail
  go_ret2
  exact ⟨rfl, O.out.alloc O.out.size _⟩

theorem frac_form (t : Nat → Int) (n b off c : Nat) : ∃ fa fc, fracV t n b off c = .slice fa (cFl t n) fc ∧ (pDot t n = true → fa = some ⟨b, off + pFs t n, none⟩) := by
  cases hd : pDot t n with
  | true => exact ⟨_, _, by unfold fracV cFl; rw [if_pos hd], fun _ => rfl⟩
  | false =>
    have e : cFl t n = 0 := by unfold cFl pFe pFs; rw [if_neg (by simp [hd]), if_neg (by simp [hd])]; omega
    exact ⟨none, 0, by unfold fracV; rw [if_neg (by simp [hd]), e], fun h => by cases h⟩

theorem exp_form (t : Nat → Int) (n b off c : Nat) (hok : okNum t n) (hc : n ≤ c) (hc2 : c ≤ 9223372036854775807) :
    ∃ xa xl xc sg, expV t n b off c = .slice xa xl xc ∧ xl ≤ xc ∧ xc ≤ 9223372036854775807 ∧ ∀ w, Text w b off n t → ExpOf w xa xl (cM t n) (cE t n) sg (cSgn t n) := by
  cases hx : pExp t n with
  | true =>
    have := pEe_le t n
    exact ⟨_, _, _, (pPlus t n || pMinus t n), by unfold expV; rw [if_pos hx], by omega, by omega, fun w T => text_exp T hok hx⟩
  | false => exact ⟨none, 0, 0, false, by unfold expV; rw [if_neg (by simp [hx])], Nat.le_refl _, by omega, fun w T => .inl ⟨rfl, cM_exp hx, rfl, by simp [cSgn, hx]⟩⟩

theorem number_ok (C b off n c : Nat) (t : Nat → Int) (w : World) (h : At w C (some ⟨b, off, none⟩) n c 0) (T : Text w b off n t) (hn : 0 < n) (hm : n ≤ 10000000) (hc : n ≤ c) (hc2 : c ≤ 9223372036854775807) (hbC : b ≠ C) (hC : C < w.heap.size) (hb : b < w.heap.size) (hok : okNum t n) :
    Calls Try.prog 10 #[.pointer (some ⟨C, 0, none⟩)] w fun e w' => e = .returned (.tuple #[.agg #[.bool (pNeg t n), wholeV t n b off c, fracV t n b off c, expV t n b off c], .bool true]) ∧ NOut w w' C (pEe t n) := by
  refine (number_at C b off n c t w h T hn hm hc hc2 hbC hC hb).mono ?_
  rintro e w' (⟨hno, _⟩ | ⟨_, he, ho⟩)
  · exact absurd hok hno
  · exact ⟨he, ho⟩

set_option maxHeartbeats 2000000 in
theorem Integer_at (b off n c : Nat) (t : Nat → Int) (w : World) (T : Text w b off n t) (hn : 0 < n) (hm : n ≤ 10000000) (hc : n ≤ c) (hc2 : c ≤ 9223372036854775807) (hb : b < w.heap.size) :
    Calls Try.prog 6 #[.slice (some ⟨b, off, none⟩) n c] w fun e w' => ∃ v ok, e = .returned (.tuple #[.int .i64 v, .bool ok]) ∧ IntOut t n v ok ∧ Below w.heap.size w w' := by
  have A := new_walker w (some ⟨b, off, none⟩) n c
  have T1 : Text (w.alloc (.cells #[.slice (some ⟨b, off, none⟩) n c, .int .i64 0, .int .i64 0, .nilIface, .bool false, .slice none 0 0] 33)) b off n t := ⟨fun j hj => by rw [World.cell?_alloc_lt _ _ _ (by exact hb)]; exact T.cells j hj⟩
  by_cases hok : okNum t n
  · have hcon := number_ok w.heap.size b off n c t _ A T1 hn hm hc hc2 (by omega) (by simp) (by simp; omega) hok
    obtain ⟨fa, fc, hf, hfa⟩ := frac_form t n b off c
    obtain ⟨xa, xl, xc, sg, hx, hx1, hx2, hxe⟩ := exp_form t n b off c hok hc hc2
    have hwv : wholeV t n b off c = .slice (some ⟨b, off + pWs t n, none⟩) (cWl t n) (c - pWs t n) := rfl
    rw [hf, hx, hwv] at hcon
    have H : Hid _ := hcon
    have hle := pEe_le t n
    have Z : Aside (okNum t n ∧ Text w b off n t ∧ (pDot t n = true → fa = some ⟨b, off + pFs t n, none⟩) ∧ (∀ w, Text w b off n t → ExpOf w xa xl (cM t n) (cE t n) sg (cSgn t n))) := ⟨hok, T, hfa, hxe⟩
    clear hcon A T1 T hok hfa hxe hf hx hwv
    go_enter Try.func6, Try.ntmps6
    go_wp2_with fail
    refine Calls.mono H.out ?_
    rintro _ w1 ⟨rfl, ho⟩
    have O : Aside (Below w.heap.size w w1) := ho.below
    have hnx := ho.next
    have hsz : w.heap.size < w1.heap.size := by have := ho.size; simp at this; omega
    clear ho H
    by_cases hend : pEe t n = n
    · have hE : Aside (pEe t n = n) := hend
      rw [hend] at hnx
      clear hend hle
      go_wp2_with fail
      have B2 : Below w.heap.size w (w1.alloc (.cells #[.bool (pNeg t n), .slice (some ⟨b, off + pWs t n, none⟩) (cWl t n) (c - pWs t n), .slice fa (cFl t n) fc, .slice xa xl xc] 35)) := O.out.alloc O.out.size _
      have T2 : Text (w1.alloc (.cells #[.bool (pNeg t n), .slice (some ⟨b, off + pWs t n, none⟩) (cWl t n) (c - pWs t n), .slice fa (cFl t n) fc, .slice xa xl xc] 35)) b off n t := ⟨fun j hj => cell_later B2 (Z.out.2.1.cells j hj)⟩
      have l1 := pWe_le t n
      have l2 := pFe_le t n
      have l3 := pEe_le t n
      refine (integer_at (cWl t n) (c - pWs t n) (cFl t n) fc xl xc (cM t n) (pNeg t n) sg (cSgn t n) _ fa xa (cD t n) (cE t n) _ (by unfold cWl; omega) (by unfold cFl; omega) (by unfold cM; omega) hx1 hx2 (text_row (c := c) T2 fa Z.out.2.2.1) (Z.out.2.2.2 _ T2) cE_dig cD_dig).mono ?_
      rintro _ w2 ⟨v, ok, rfl, hres, hbel⟩
      have R : Aside (IntOut t n v ok ∧ Below w.heap.size w w2) := ⟨.inr ⟨Z.out.1, hE.out, hres⟩, B2.trans (hbel.mono B2.size)⟩
      clear hres hbel T2 B2 hnx
      go_wp2_with fail
      go_ret2
      exact ⟨v, ok, rfl, R.out.1, R.out.2⟩
    · have hE : Aside (pEe t n ≠ n) := hend
      have hb1 : ((pEe t n : Int) != (n : Int)) = true := by rw [bne_iff_ne]; omega
      clear hend
      go_wp2_with fail
      go_ret2
      exact ⟨0, false, rfl, .inl ⟨fun h => hE.out h.2, rfl, rfl⟩, O.out.alloc O.out.size _⟩
  · refine (Integer_fail _ n c w hm ?_).mono ?_
    · refine (number_at w.heap.size b off n c t _ A T1 hn hm hc hc2 (by omega) (by simp) (by simp; omega)).mono ?_
      rintro e w' (⟨_, h⟩ | ⟨h, _⟩)
      · exact h
      · exact absurd h hok
    · rintro e w' ⟨rfl, hbel⟩
      exact ⟨0, false, rfl, .inl ⟨fun h => hok h.1, rfl, rfl⟩, hbel⟩

theorem Integer_empty (a : Option Addr) (c : Nat) (w : World) :
    Calls Try.prog 6 #[.slice a 0 c] w fun e w' => e = .returned (.tuple #[.int .i64 0, .bool false]) ∧ Below w.heap.size w w' :=
  Integer_fail a 0 c w (by omega) (number_empty w.heap.size c a _ (new_walker w a 0 c) (by simp))

end Go.Proofs.Qxb6629257a.W
