import Derived.Test.Qxb6629303aWalksD
namespace Go.Proofs.Qxb6629303a.W
open Go.RowKit
set_option linter.unusedVariables false
set_option maxRecDepth 100000

/-- The sum of the first k elements. -/
def psum (L : List Int) : Nat → Int
  | 0 => 0
  | k + 1 => psum L k + L.getD k 0

theorem psum_cons (x : Int) (L : List Int) : ∀ k, psum (x :: L) (k + 1) = x + psum L k
  | 0 => by show 0 + x = x + 0; omega
  | k + 1 => by
    show psum (x :: L) (k + 1) + L.getD k 0 = x + (psum L k + L.getD k 0)
    rw [psum_cons x L k]; omega

/-- Each batch is at least one and no more than what is left; all of them together are what there was to move. -/
theorem ofL_sum (s : Nat → Int) (hs : ∀ k, 1 ≤ s k) : ∀ (f k : Nat) (left : Int), 0 ≤ left → left ≤ f →
    psum (ofL s f k left) (ofL s f k left).length = left ∧ ∀ i, i < (ofL s f k left).length → 1 ≤ (ofL s f k left).getD i 0 ∧ (ofL s f k left).getD i 0 ≤ left - psum (ofL s f k left) i
  | 0, k, left, h0, h => by
    rw [ofL_done s _ k left (by omega)]
    exact ⟨by show (0 : Int) = left; omega, fun i hi => absurd hi (Nat.not_lt_zero _)⟩
  | f + 1, k, left, h0, h => by
    by_cases hp : 0 < left
    · have := hs k
      obtain ⟨h1, h2⟩ := ofL_sum s hs f (k + 1) (left - min (s k) left) (by omega) (by omega)
      rw [ofL_step s f k left hp]
      generalize ofL s f (k + 1) (left - min (s k) left) = M at h1 h2
      refine ⟨?_, fun i hi => ?_⟩
      · rw [List.length_cons, psum_cons, h1]; omega
      · cases i with
        | zero => show 1 ≤ min (s k) left ∧ min (s k) left ≤ left - 0; omega
        | succ i =>
          have := h2 i (by simpa using hi)
          rw [psum_cons]
          show 1 ≤ M.getD i 0 ∧ M.getD i 0 ≤ _
          omega
    · rw [ofL_done s _ k left (by omega)]
      exact ⟨by show (0 : Int) = left; omega, fun i hi => absurd hi (Nat.not_lt_zero _)⟩

theorem psum_nonneg (L : List Int) (h : ∀ i, i < L.length → 1 ≤ L.getD i 0) : ∀ k, k ≤ L.length → 0 ≤ psum L k
  | 0, _ => Int.le_refl _
  | k + 1, hk => by
    have := psum_nonneg L h k (by omega)
    have := h k (by omega)
    show 0 ≤ psum L k + L.getD k 0
    omega

/-- With less to move: the same batches, cut off. -/
theorem ofL_trunc (s : Nat → Int) (hs : ∀ k, 1 ≤ s k) : ∀ (f k : Nat) (l1 l2 : Int), l2 ≤ l1 → l1 ≤ f →
    (ofL s f k l2).length ≤ (ofL s f k l1).length ∧ ∀ i, i < (ofL s f k l2).length → (ofL s f k l2).getD i 0 = min ((ofL s f k l1).getD i 0) (l2 - psum (ofL s f k l2) i)
  | 0, k, l1, l2, h0, h => ⟨Nat.le_refl _, fun i hi => absurd hi (Nat.not_lt_zero _)⟩
  | f + 1, k, l1, l2, h0, h => by
    by_cases hp : 0 < l2
    · have := hs k
      have q := ofL_trunc s hs f (k + 1) (l1 - min (s k) l1) (l2 - min (s k) l2) (by omega) (by omega)
      rw [ofL_step s f k l1 (by omega), ofL_step s f k l2 hp]
      generalize ofL s f (k + 1) (l1 - min (s k) l1) = M1 at q
      generalize ofL s f (k + 1) (l2 - min (s k) l2) = M2 at q
      refine ⟨by simpa using q.1, fun i hi => ?_⟩
      cases i with
      | zero => show min (s k) l2 = min (min (s k) l1) (l2 - 0); omega
      | succ i =>
        have := q.2 i (by simpa using hi)
        rw [psum_cons]
        show M2.getD i 0 = min (M1.getD i 0) _
        omega
    · rw [ofL_done s _ k l2 (by omega)]
      exact ⟨Nat.zero_le _, fun i hi => absurd hi (Nat.not_lt_zero _)⟩

theorem ofL_ne (s : Nat → Int) (f k : Nat) (left : Int) (h : 0 < left) (hf : 0 < f) : 0 < (ofL s f k left).length := by
  obtain ⟨f, rfl⟩ : ∃ g, f = g + 1 := ⟨f - 1, by omega⟩
  rw [ofL_step s f k left h]; simp

/-- The index is behind the list when the sum has come to what there was. -/
theorem psum_lt (L : List Int) (left : Int) (h1 : psum L L.length = left) (h : ∀ i, i < L.length → 1 ≤ L.getD i 0) : ∀ k, k ≤ L.length → (psum L k < left ↔ k < L.length) := by
  have mono : ∀ j k, k + j = L.length → psum L k + j ≤ left := by
    intro j
    induction j with
    | zero => intro k hk; rw [show k = L.length from by omega, h1]; omega
    | succ j ih =>
      intro k hk
      have := ih (k + 1) (by omega)
      have := h k (by omega)
      have e : psum L (k + 1) = psum L k + L.getD k 0 := rfl
      omega
  intro k hk
  constructor
  · intro hlt
    apply Classical.byContradiction
    intro hn
    rw [show k = L.length from by omega, h1] at hlt
    omega
  · intro hlt
    have := mono (L.length - k) k (by omega)
    omega
end Go.Proofs.Qxb6629303a.W
