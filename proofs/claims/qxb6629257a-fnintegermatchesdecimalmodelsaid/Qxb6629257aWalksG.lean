import Derived.Test.Qxb6629257aPlainD
import Derived.Deep.DeepCutAuto
import Derived.Deep.CutBlock
namespace Go.Proofs.Qxb6629257a.W
open Go.RowKit
set_option linter.unusedVariables false
set_option maxRecDepth 100000

theorem isdig_yes (x : Int) (w : World) (h1 : 48 ≤ x) (h2 : x ≤ 57) : Calls Try.prog 12 #[.int .u8 x] w fun e w' => e = .returned (.bool true) ∧ w = w' := by
  go_enter Try.func12, Try.ntmps12
  go_wp2
  go_ret
  exact ⟨rfl, rfl⟩

theorem isdig_no (x : Int) (w : World) (h : ¬ (48 ≤ x ∧ x ≤ 57)) : Calls Try.prog 12 #[.int .u8 x] w fun e w' => e = .returned (.bool false) ∧ w = w' := by
  by_cases h1 : 48 ≤ x
  · have h2 : ¬ x ≤ 57 := fun hh => h ⟨h1, hh⟩
    go_enter Try.func12, Try.ntmps12
    go_wp2
    go_ret
    exact ⟨rfl, rfl⟩
  · go_enter Try.func12, Try.ntmps12
    go_wp2
    go_ret
    exact ⟨rfl, rfl⟩

set_option maxHeartbeats 400000 in
theorem mant_at (b off n c k : Nat) (t : Nat → Int) (w : World) (T : Text w b off n t) (hm : n ≤ 10000000) (hk : k < cCount t n) :
    Calls Try.prog 13 #[.slice (some ⟨b, off, none⟩) n c, .int .i64 (pWs t n), .int .i64 (cWl t n), .int .i64 (pFs t n), .int .i64 k] w fun e w' => e = .returned (.int .u8 (cD t n k)) ∧ w = w' := by
  have l1 := pWe_le t n
  have l2 := pFe_le t n
  have l3 := pWs_le_We t n
  have hcw : cWl t n = pWe t n - pWs t n := rfl
  have hcf : cFl t n = pFe t n - pFs t n := rfl
  unfold cCount at hk
  by_cases h : k < cWl t n
  · have e : cD t n k = t (pWs t n + k) := by unfold cD; rw [if_pos h]
    rw [e]
    have hlt : pWs t n + k < n := by omega
    have hc := T.cells _ hlt
    clear e hcw hcf l1 l2 l3 hk T
    generalize t (pWs t n + k) = x at hc ⊢
    go_enter Try.func13, Try.ntmps13
    go_wp2
    go_ret
    exact ⟨rfl, rfl⟩
  · have e : cD t n k = t (pFs t n + (k - cWl t n)) := by unfold cD; rw [if_neg h]
    rw [e]
    have hlt : pFs t n + (k - cWl t n) < n := by omega
    have hc := T.cells _ hlt
    rw [show pFs t n + (k - cWl t n) = pFs t n + k - cWl t n from by omega] at hc hlt ⊢
    have hle := pFs_le t n
    have hle2 : cWl t n ≤ n := by omega
    have hk2 : k < 2 * n := by omega
    clear e hcw hcf l1 l2 l3 hk T
    generalize t (pFs t n + k - cWl t n) = x at hc ⊢
    go_enter Try.func13, Try.ntmps13
    go_wp2
    go_ret
    exact ⟨rfl, rfl⟩

/-- What the model hands back. -/
def ModelPost (t : Nat → Int) (n : Nat) (w : World) (e : Ending) (w' : World) : Prop := ∃ v ok, e = .returned (.tuple #[.int .i64 v, .bool ok]) ∧ IntOut t n v ok ∧ w = w'

theorem ModelPost.mk {t : Nat → Int} {n : Nat} {w : World} {v : Int} {ok : Bool} {e : Ending} (he : e = .returned (.tuple #[.int .i64 v, .bool ok])) (h : IntOut t n v ok) : ModelPost t n w e w := ⟨v, ok, he, h, rfl⟩

theorem dot_no {t : Nat → Int} {n : Nat} (h : ¬ (pWe t n < n ∧ t (pWe t n) = 46)) : pDot t n = false := decide_eq_false h
theorem dot_yes {t : Nat → Int} {n : Nat} (h : pWe t n < n ∧ t (pWe t n) = 46) : pDot t n = true := decide_eq_true h
theorem dot_off {t : Nat → Int} {n : Nat} (h : pDot t n = false) : pFs t n = pWe t n ∧ pFe t n = pWe t n := by
  refine ⟨?_, ?_⟩
  · unfold pFs; rw [if_neg (by simp [h])]
  · unfold pFe; rw [if_neg (by simp [h])]
theorem dot_on {t : Nat → Int} {n : Nat} (h : pDot t n = true) : pFs t n = pWe t n + 1 := by unfold pFs; rw [if_pos h]
theorem exp_no {t : Nat → Int} {n : Nat} (h : ¬ (pFe t n < n ∧ (t (pFe t n) = 101 ∨ t (pFe t n) = 69))) : pExp t n = false := by
  unfold pExp pE pE2
  rw [decide_eq_false (fun hh => h ⟨hh.1, .inl hh.2⟩), decide_eq_false (fun hh => h ⟨hh.1, .inr hh.2⟩)]
  rfl
theorem exp_yes {t : Nat → Int} {n : Nat} (h : pFe t n < n ∧ (t (pFe t n) = 101 ∨ t (pFe t n) = 69)) : pExp t n = true := by
  unfold pExp pE pE2
  rcases h with ⟨h1, h2 | h2⟩
  · rw [decide_eq_true (And.intro h1 h2)]; rfl
  · rw [decide_eq_true (p := _ ∧ t _ = 69) (And.intro h1 h2)]; simp
theorem exp_off {t : Nat → Int} {n : Nat} (h : pExp t n = false) : pEe t n = pFe t n ∧ mEx t n = 0 := by
  refine ⟨?_, ?_⟩
  · unfold pEe; rw [if_neg (by simp [h])]
  · unfold mEx; rw [cM_exp h]; unfold exOf; show (if cSgn t n = true then -(0 : Int) else 0) = 0; split <;> rfl
theorem exp_on {t : Nat → Int} {n : Nat} (h : pExp t n = true) : pEs t n = pFe t n + 1 := by unfold pEs; rw [if_pos h]
theorem sg_no {t : Nat → Int} {n : Nat} (h : ¬ (pEs t n < n ∧ (t (pEs t n) = 43 ∨ t (pEs t n) = 45))) : pPlus t n = false ∧ pMinus t n = false :=
  ⟨decide_eq_false (fun hh => h ⟨hh.1, .inl hh.2⟩), decide_eq_false (fun hh => h ⟨hh.1, .inr hh.2⟩)⟩
theorem sg_off {t : Nat → Int} {n : Nat} (h : (pPlus t n || pMinus t n) = false) : pDs t n = pEs t n := by unfold pDs; rw [if_neg (by simp [h])]
theorem sg_on {t : Nat → Int} {n : Nat} (h : (pPlus t n || pMinus t n) = true) : pDs t n = pEs t n + 1 := by unfold pDs; rw [if_pos h]

/-- The first region of a piece of code. -/
def firstReg : Code → Option Nat
  | .region k _ _ => some k
  | .seq a b => match firstReg a with
    | some k => some k
    | none => firstReg b
  | .block _ c => firstReg c
  | .scope c => firstReg c
  | .loop c => firstReg c
  | .cond _ a b => match firstReg a with
    | some k => some k
    | none => firstReg b
  | _ => none

/-- What follows from region k on, along the body's own sequence. -/
def tailAt (k : Nat) : Code → Option Code
  | .seq a b => if firstReg a == some k then some (.seq a b) else match tailAt k a with
    | some c => some c
    | none => tailAt k b
  | .block _ c => tailAt k c
  | .scope c => tailAt k c
  | _ => none

end Go.Proofs.Qxb6629257a.W
