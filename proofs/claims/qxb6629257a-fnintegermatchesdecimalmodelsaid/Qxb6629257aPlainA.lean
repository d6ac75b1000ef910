import Derived.Test.Qxb6629257aWalksA
namespace Go.Proofs.Qxb6629257a.W
open Go.RowKit
set_option linter.unusedVariables false

/-! ### The parts of a number's text, as plain functions of the bytes -/

def isDig (x : Int) : Bool := decide (48 ≤ x ∧ x ≤ 57)

/-- How many of the next k bytes from i on are digits, up to the first that is none. -/
def runLen (t : Nat → Int) (i : Nat) : Nat → Nat
  | 0 => 0
  | k + 1 => if isDig (t i) then runLen t (i + 1) k + 1 else 0

def dEnd (t : Nat → Int) (n i : Nat) : Nat := i + runLen t i (n - i)

theorem runLen_le (t : Nat → Int) : ∀ (k i : Nat), runLen t i k ≤ k
  | 0, i => Nat.le_refl _
  | k + 1, i => by
    unfold runLen
    split
    · have := runLen_le t k (i + 1); omega
    · omega

theorem runLen_dig (t : Nat → Int) : ∀ (k i j : Nat), i ≤ j → j < i + runLen t i k → 48 ≤ t j ∧ t j ≤ 57
  | 0, i, j, h1, h2 => by simp [runLen] at h2; omega
  | k + 1, i, j, h1, h2 => by
    unfold runLen at h2
    by_cases hd : isDig (t i) = true
    · rw [if_pos hd] at h2
      by_cases e : j = i
      · subst e
        simpa [isDig] using hd
      · exact runLen_dig t k (i + 1) j (by omega) (by omega)
    · rw [if_neg hd] at h2
      omega

theorem runLen_stop (t : Nat → Int) : ∀ (k i : Nat), runLen t i k < k → ¬ (48 ≤ t (i + runLen t i k) ∧ t (i + runLen t i k) ≤ 57)
  | 0, i, h => by omega
  | k + 1, i, h => by
    by_cases hd : isDig (t i) = true
    · have e : runLen t i (k + 1) = runLen t (i + 1) k + 1 := by
        show (if isDig (t i) then runLen t (i + 1) k + 1 else 0) = _
        rw [if_pos hd]
      rw [e] at h ⊢
      have := runLen_stop t k (i + 1) (by omega)
      rw [show i + (runLen t (i + 1) k + 1) = i + 1 + runLen t (i + 1) k from by omega]
      exact this
    · have e : runLen t i (k + 1) = 0 := by
        show (if isDig (t i) then runLen t (i + 1) k + 1 else 0) = _
        rw [if_neg hd]
      rw [e]
      simpa [isDig] using hd

theorem dEnd_run (t : Nat → Int) (n i : Nat) (h : i ≤ n) : DigRun t n i (dEnd t n i) := by
  have h1 := runLen_le t (n - i) i
  refine ⟨by unfold dEnd; omega, by unfold dEnd; omega, fun k a b => runLen_dig t (n - i) i k a b, fun hlt => ?_⟩
  exact runLen_stop t (n - i) i (by unfold dEnd at hlt; omega)

theorem DigRun.uniq {t : Nat → Int} {n i j k : Nat} (h : DigRun t n i j) (h' : DigRun t n i k) : j = k := by
  rcases Nat.lt_trichotomy j k with hlt | he | hlt
  · exact absurd (h'.dig j h.le hlt) (h.stop (by have := h'.hn; omega))
  · exact he
  · exact absurd (h.dig k h'.le hlt) (h'.stop (by have := h.hn; omega))

def pNeg (t : Nat → Int) (n : Nat) : Bool := decide (0 < n ∧ t 0 = 45)
def pWs (t : Nat → Int) (n : Nat) : Nat := if pNeg t n then 1 else 0
def pZero (t : Nat → Int) (n : Nat) : Bool := decide (pWs t n < n ∧ t (pWs t n) = 48)
def pWe (t : Nat → Int) (n : Nat) : Nat := if pZero t n then pWs t n + 1 else dEnd t n (pWs t n)
def pDot (t : Nat → Int) (n : Nat) : Bool := decide (pWe t n < n ∧ t (pWe t n) = 46)
def pFs (t : Nat → Int) (n : Nat) : Nat := if pDot t n then pWe t n + 1 else pWe t n
def pFe (t : Nat → Int) (n : Nat) : Nat := if pDot t n then dEnd t n (pFs t n) else pWe t n
def pE (t : Nat → Int) (n : Nat) : Bool := decide (pFe t n < n ∧ t (pFe t n) = 101)
def pE2 (t : Nat → Int) (n : Nat) : Bool := decide (pFe t n < n ∧ t (pFe t n) = 69)
def pExp (t : Nat → Int) (n : Nat) : Bool := pE t n || pE2 t n
def pEs (t : Nat → Int) (n : Nat) : Nat := if pExp t n then pFe t n + 1 else pFe t n
def pPlus (t : Nat → Int) (n : Nat) : Bool := decide (pEs t n < n ∧ t (pEs t n) = 43)
def pMinus (t : Nat → Int) (n : Nat) : Bool := decide (pEs t n < n ∧ t (pEs t n) = 45)
def pDs (t : Nat → Int) (n : Nat) : Nat := if pPlus t n || pMinus t n then pEs t n + 1 else pEs t n
def pEe (t : Nat → Int) (n : Nat) : Nat := if pExp t n then dEnd t n (pDs t n) else pFe t n
/-- The text begins with a number. -/
def okNum (t : Nat → Int) (n : Nat) : Prop := pWs t n < pWe t n ∧ (pDot t n = true → pFs t n < pFe t n) ∧ (pExp t n = true → pDs t n < pEe t n)

theorem pWs_le (t : Nat → Int) (n : Nat) : pWs t n ≤ n := by
  unfold pWs pNeg
  split
  · rename_i h; simp at h; omega
  · omega

theorem pWs_le1 (t : Nat → Int) (n : Nat) : pWs t n ≤ 1 := by
  unfold pWs
  split <;> omega

theorem pWe_run (t : Nat → Int) (n : Nat) (h : pZero t n = false) : DigRun t n (pWs t n) (pWe t n) := by
  unfold pWe
  rw [if_neg (by simp [h])]
  exact dEnd_run t n _ (pWs_le t n)

theorem pWe_le (t : Nat → Int) (n : Nat) : pWe t n ≤ n := by
  cases h : pZero t n with
  | false => exact (pWe_run t n h).hn
  | true =>
    unfold pWe
    rw [if_pos h]
    unfold pZero at h
    simp at h
    omega

theorem pFs_le (t : Nat → Int) (n : Nat) : pFs t n ≤ n := by
  have := pWe_le t n
  unfold pFs
  split
  · rename_i h
    unfold pDot at h
    simp at h
    omega
  · omega

theorem pFe_run (t : Nat → Int) (n : Nat) (h : pDot t n = true) : DigRun t n (pFs t n) (pFe t n) := by
  unfold pFe
  rw [if_pos h]
  exact dEnd_run t n _ (pFs_le t n)

theorem pFe_le (t : Nat → Int) (n : Nat) : pFe t n ≤ n := by
  cases h : pDot t n with
  | true => exact (pFe_run t n h).hn
  | false =>
    unfold pFe
    rw [if_neg (by simp [h])]
    exact pWe_le t n

theorem pEs_le (t : Nat → Int) (n : Nat) : pEs t n ≤ n := by
  have := pFe_le t n
  unfold pEs
  split
  · rename_i h
    simp [pExp, pE, pE2] at h
    omega
  · omega

theorem pDs_le (t : Nat → Int) (n : Nat) : pDs t n ≤ n := by
  have := pEs_le t n
  unfold pDs
  split
  · rename_i h
    simp [pPlus, pMinus] at h
    omega
  · omega

theorem pEe_run (t : Nat → Int) (n : Nat) (h : pExp t n = true) : DigRun t n (pDs t n) (pEe t n) := by
  unfold pEe
  rw [if_pos h]
  exact dEnd_run t n _ (pDs_le t n)

theorem pEe_le (t : Nat → Int) (n : Nat) : pEe t n ≤ n := by
  cases h : pExp t n with
  | true => exact (pEe_run t n h).hn
  | false =>
    unfold pEe
    rw [if_neg (by simp [h])]
    exact pFe_le t n

theorem pWs_le_We (t : Nat → Int) (n : Nat) : pWs t n ≤ pWe t n := by
  cases h : pZero t n with
  | false => exact (pWe_run t n h).le
  | true => unfold pWe; rw [if_pos h]; omega

theorem pWe_le_Fs (t : Nat → Int) (n : Nat) : pWe t n ≤ pFs t n := by unfold pFs; split <;> omega
theorem pFs_le_Fe (t : Nat → Int) (n : Nat) : pFs t n ≤ pFe t n := by
  cases h : pDot t n with
  | true => exact (pFe_run t n h).le
  | false => unfold pFe pFs; rw [if_neg (by simp [h]), if_neg (by simp [h])]; exact Nat.le_refl _
theorem pFe_le_Es (t : Nat → Int) (n : Nat) : pFe t n ≤ pEs t n := by unfold pEs; split <;> omega
theorem pEs_le_Ds (t : Nat → Int) (n : Nat) : pEs t n ≤ pDs t n := by unfold pDs; split <;> omega

end Go.Proofs.Qxb6629257a.W
