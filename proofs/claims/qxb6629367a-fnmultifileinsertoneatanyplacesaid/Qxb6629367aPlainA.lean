import Derived.Test.Qxb6629367aWalksE
namespace Go.Proofs.Qxb6629367a.W
open Go.RowKit
set_option linter.unusedVariables false

theorem wrap_add_left (a b : Int) : wrap64 (wrap64 a + b) = wrap64 (a + b) := by unfold wrap64; omega
theorem wrap_add_right (a b : Int) : wrap64 (a + wrap64 b) = wrap64 (a + b) := by unfold wrap64; omega
theorem wrap_wrap (a : Int) : wrap64 (wrap64 a) = wrap64 a := by unfold wrap64; omega

theorem wsum_in (A : Nat → Int) : ∀ k, wrap64 (wsum A k) = wsum A k
  | 0 => by unfold wsum wrap64; omega
  | k + 1 => by show wrap64 (wrap64 _) = wrap64 _; rw [wrap_wrap]

theorem wsum_congr (A B : Nat → Int) : ∀ k, (∀ i, i < k → A i = B i) → wsum A k = wsum B k
  | 0, _ => rfl
  | k + 1, h => by
    show wrap64 (wsum A k + A k) = wrap64 (wsum B k + B k)
    rw [wsum_congr A B k (fun i hi => h i (by omega)), h k (by omega)]

theorem wsum_add (A : Nat → Int) (m : Nat) : ∀ k, wsum A (m + k) = wrap64 (wsum A m + wsum (fun i => A (m + i)) k)
  | 0 => by show wsum A m = wrap64 (wsum A m + 0); rw [Int.add_zero, wsum_in]
  | k + 1 => by
    show wrap64 (wsum A (m + k) + A (m + k)) = wrap64 (wsum A m + wrap64 (wsum (fun i => A (m + i)) k + A (m + k)))
    rw [wsum_add A m k, wrap_add_left, wrap_add_right, Int.add_assoc]

/-- How many of the first k entries are padding that holds bytes. -/
def cnt (A : Nat → Int) (P : Nat → Bool) : Nat → Nat
  | 0 => 0
  | k + 1 => cnt A P k + (if (P k && decide (0 < A k)) = true then 1 else 0)

theorem cnt_le (A : Nat → Int) (P : Nat → Bool) : ∀ k, cnt A P k ≤ k
  | 0 => Nat.le_refl _
  | k + 1 => by
    have := cnt_le A P k
    show cnt A P k + (if _ then 1 else 0) ≤ k + 1
    split <;> omega


/-- Two lists of entries, one behind the other. -/
theorem pads_add (A : Nat → Int) (P : Nat → Bool) (g : Nat) : ∀ (f k : Nat) (off : Int), wrap64 off = off → pads A P (f + g) k off = pads A P f k off ++ pads A P g (k + f) (wrap64 (off + wsum (fun i => A (k + i)) f))
  | 0, k, off, h => by
    show pads A P (0 + g) k off = [] ++ pads A P g k (wrap64 (off + 0))
    rw [Int.add_zero, h, Nat.zero_add, List.nil_append]
  | f + 1, k, off, h => by
    have e : wrap64 (wrap64 (off + A k) + wsum (fun i => A (k + 1 + i)) f) = wrap64 (off + wsum (fun i => A (k + i)) (f + 1)) := by
      have q := wsum_add (fun i => A (k + i)) 1 f
      rw [show f + 1 = 1 + f from by omega, q]
      have e1 : wsum (fun i => A (k + i)) 1 = wrap64 (A k) := by show wrap64 (0 + A (k + 0)) = _; rw [Int.zero_add]; rfl
      have e2 : (fun i => A (k + 1 + i)) = (fun i => (fun i => A (k + i)) (1 + i)) := by funext i; show A (k + 1 + i) = A (k + (1 + i)); rw [Nat.add_assoc]
      rw [e1, ← e2, wrap_add_right, wrap_add_left]
      generalize wsum (fun i => A (k + 1 + i)) f = z
      unfold wrap64; omega
    have ih := pads_add A P g f (k + 1) (wrap64 (off + A k)) (wrap_wrap _)
    rw [e, show k + 1 + f = k + (f + 1) from by omega] at ih
    rw [show f + 1 + g = (f + g) + 1 from by omega]
    by_cases hp : P k = true ∧ 0 < A k
    · rw [pads_yes A P _ k off hp.1 hp.2, pads_yes A P _ k off hp.1 hp.2, ih, List.cons_append]
    · rw [pads_no A P _ k off hp, pads_no A P _ k off hp, ih]

theorem pads_congr (A B : Nat → Int) (P Q : Nat → Bool) (j : Nat) : ∀ (f k : Nat) (off : Int), (∀ i, i < f → A (j + k + i) = B (k + i) ∧ P (j + k + i) = Q (k + i)) → pads A P f (j + k) off = pads B Q f k off
  | 0, k, off, h => rfl
  | f + 1, k, off, h => by
    have h0 := h 0 (by omega)
    have ih := pads_congr A B P Q j f (k + 1) (wrap64 (off + B k)) (fun i hi => by
      have q := h (i + 1) (by omega)
      rw [show j + (k + 1) + i = j + k + (i + 1) from by omega, show k + 1 + i = k + (i + 1) from by omega]
      exact q)
    have a0 : A (j + k) = B k := h0.1
    have p0 : P (j + k) = Q k := h0.2
    by_cases hp : Q k = true ∧ 0 < B k
    · rw [pads_yes B Q _ k off hp.1 hp.2, pads_yes A P _ (j + k) off (by rw [p0]; exact hp.1) (by rw [a0]; exact hp.2), a0, ← ih]; rfl
    · rw [pads_no B Q _ k off hp, pads_no A P _ (j + k) off (by rw [p0, a0]; exact hp), a0, ← ih]; rfl

/-- A span, moved up. -/
def shift (d : Int) (p : Int × Int) : Int × Int := (wrap64 (p.1 + d), wrap64 (p.2 + d))

theorem pads_shift (A : Nat → Int) (P : Nat → Bool) (d : Int) : ∀ (f k : Nat) (off : Int), pads A P f k (wrap64 (off + d)) = (pads A P f k off).map (shift d)
  | 0, k, off => rfl
  | f + 1, k, off => by
    have e : wrap64 (wrap64 (off + d) + A k) = wrap64 (wrap64 (off + A k) + d) := by rw [wrap_add_left, wrap_add_left]; congr 1; omega
    have ih := pads_shift A P d f (k + 1) (wrap64 (off + A k))
    by_cases hp : P k = true ∧ 0 < A k
    · rw [pads_yes A P _ k _ hp.1 hp.2, pads_yes A P _ k _ hp.1 hp.2, List.map_cons, ← ih, e]; rfl
    · rw [pads_no A P _ k _ hp, pads_no A P _ k _ hp, ← ih, e]

theorem pads_cnt (A : Nat → Int) (P : Nat → Bool) : ∀ (f : Nat), (pads A P f 0 0).length = cnt A P f
  | 0 => rfl
  | f + 1 => by
    rw [pads_add A P 1 f 0 0 (by unfold wrap64; omega), List.length_append, pads_cnt A P f]
    show _ = cnt A P f + _
    congr 1
    rw [Nat.zero_add]
    by_cases hp : P f = true ∧ 0 < A f
    · rw [pads_yes A P _ _ _ hp.1 hp.2, if_pos (by simp [hp.1, hp.2])]; rfl
    · rw [pads_no A P _ _ _ hp, if_neg (by simp only [Bool.and_eq_true, decide_eq_true_eq]; exact hp)]; rfl

/-- The padding of a, then b: a's, then b's moved up by a's length. -/
theorem pads_join (A A1 A2 : Nat → Int) (P P1 P2 : Nat → Bool) (na nb : Nat) (h1 : ∀ i, i < na → A i = A1 i ∧ P i = P1 i) (h2 : ∀ i, i < nb → A (na + i) = A2 i ∧ P (na + i) = P2 i) :
    pads A P (na + nb) 0 0 = pads A1 P1 na 0 0 ++ (pads A2 P2 nb 0 0).map (shift (wsum A1 na)) := by
  rw [pads_add A P nb na 0 0 (by unfold wrap64; omega), ← pads_shift]
  congr 1
  · exact pads_congr A A1 P P1 0 na 0 0 (fun i hi => by simp only [Nat.zero_add]; exact h1 i hi)
  · have e : wsum (fun i => A (0 + i)) na = wsum A1 na := wsum_congr _ _ _ (fun i hi => by show A (0 + i) = _; rw [Nat.zero_add]; exact (h1 i hi).1)
    rw [e, Nat.zero_add]
    exact pads_congr A A2 P P2 na nb 0 _ (fun i hi => by rw [Nat.add_zero, Nat.zero_add]; exact h2 i hi)

theorem wsum_join (A A1 A2 : Nat → Int) (na nb : Nat) (h1 : ∀ i, i < na → A i = A1 i) (h2 : ∀ i, i < nb → A (na + i) = A2 i) : wsum A (na + nb) = wrap64 (wsum A1 na + wsum A2 nb) := by
  rw [wsum_add, wsum_congr A A1 na h1, wsum_congr (fun i => A (na + i)) A2 nb h2]
end Go.Proofs.Qxb6629367a.W
