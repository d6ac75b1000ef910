import Derived.Test.Qxb6629257aWalksD
namespace Go.Proofs.Qxb6629257a.W
open Go.RowKit
set_option linter.unusedVariables false

theorem IntRes.uniq {neg : Bool} {D : Nat → Int} {count : Nat} {point v v' : Int} {ok ok' : Bool} (h : IntRes neg D count point v ok) (h' : IntRes neg D count point v' ok') : v = v' ∧ ok = ok' := by
  rcases h with ⟨a, b, c⟩ | ⟨a, b, c, d⟩ | ⟨a, b, c, d⟩ <;> rcases h' with ⟨a', b', c'⟩ | ⟨a', b', c', d'⟩ | ⟨a', b', c', d'⟩
  · exact ⟨b.trans b'.symm, c.trans c'.symm⟩
  · exact absurd a a'
  · exact absurd a a'
  · exact absurd a' a
  · exact ⟨c.trans c'.symm, d.trans d'.symm⟩
  · omega
  · exact absurd a' a
  · omega
  · exact ⟨c.trans c'.symm, d.trans d'.symm⟩

theorem IntOut.uniq {t : Nat → Int} {n : Nat} {v v' : Int} {ok ok' : Bool} (h : IntOut t n v ok) (h' : IntOut t n v' ok') : v = v' ∧ ok = ok' := by
  rcases h with ⟨a, b, c⟩ | ⟨a, b, c⟩ <;> rcases h' with ⟨a', b', c'⟩ | ⟨a', b', c'⟩
  · exact ⟨b.trans b'.symm, c.trans c'.symm⟩
  · exact absurd ⟨a', b'⟩ a
  · exact absurd ⟨a, b⟩ a'
  · exact c.uniq c'

/-- The bounded reading is the number, cut at the bound. -/
theorem expAt_min (E : Nat → Int) (B : Int) (m : Nat) (hB : 0 ≤ B) (hE : ∀ k, k < m → 48 ≤ E k ∧ E k ≤ 57) : ∀ k, k ≤ m → expAt E B k = min (valAt E m k) B := by
  intro k
  induction k with
  | zero => intro _; show (0 : Int) = min 0 B; omega
  | succ k ih =>
    intro hk
    have h1 := ih (by omega)
    have h2 := valAt_nn (D := E) (count := m) hE k
    have h3 : dgt E m k = E k - 48 := by unfold dgt; rw [if_pos (by omega)]
    have h4 := hE k (by omega)
    show min (expAt E B k * 10 + (E k - 48)) B = min (valAt E m k * 10 + dgt E m k) B
    rw [h1, h3]
    omega

def pow10 : Nat → Int
  | 0 => 1
  | k + 1 => pow10 k * 10

theorem pow10_pos : ∀ k, 1 ≤ pow10 k
  | 0 => Int.le_refl _
  | k + 1 => by have := pow10_pos k
                show 1 ≤ pow10 k * 10
                omega

theorem pow10_mono (k : Nat) : ∀ j, k ≤ j → pow10 k ≤ pow10 j := by
  intro j
  induction j with
  | zero => intro h; have : k = 0 := by omega
            subst this; exact Int.le_refl _
  | succ j ih =>
    intro h
    by_cases e : k = j + 1
    · subst e; exact Int.le_refl _
    · have := ih (by omega)
      have := pow10_pos j
      show pow10 k ≤ pow10 j * 10
      omega

theorem pow10_19 : pow10 19 = 10000000000000000000 := by decide

/-- The row has a digit that is no nought; 'a' is the first such, 'z' the last. -/
structure NZ (D : Nat → Int) (count a z : Nat) : Prop where
  le : a ≤ z
  lt : z < count
  lead : ∀ i, i < a → D i = 48
  first : D a ≠ 48
  last : D z ≠ 48
  tail : ∀ i, z < i → i < count → D i = 48

section
variable {D : Nat → Int} {count a z : Nat}

theorem val_lead (hl : ∀ i, i < a → D i = 48) (hac : a ≤ count) : ∀ k, k ≤ a → valAt D count k = 0 := by
  intro k
  induction k with
  | zero => intro _; rfl
  | succ k ih =>
    intro hk
    have h1 := ih (by omega)
    have h2 : dgt D count k = 0 := by unfold dgt; rw [if_pos (by omega), hl k (by omega)]; rfl
    show valAt D count k * 10 + dgt D count k = 0
    omega

theorem NZ.ge (h : NZ D count a z) (hD : ∀ i, i < count → 48 ≤ D i ∧ D i ≤ 57) : ∀ j, pow10 j ≤ valAt D count (a + 1 + j) := by
  intro j
  induction j with
  | zero =>
    have h0 := val_lead (count := count) h.lead (by have := h.le; have := h.lt; omega) a (Nat.le_refl _)
    have h1 := hD a (by have := h.le; have := h.lt; omega)
    have h2 := h.first
    have h3 : dgt D count a = D a - 48 := by unfold dgt; rw [if_pos (by have := h.le; have := h.lt; omega)]
    show 1 ≤ valAt D count a * 10 + dgt D count a
    omega
  | succ j ih =>
    have h1 := dgt_bd hD (a + 1 + j)
    show pow10 j * 10 ≤ valAt D count (a + 1 + j) * 10 + dgt D count (a + 1 + j)
    omega

theorem NZ.lt_pow (h : NZ D count a z) (hD : ∀ i, i < count → 48 ≤ D i ∧ D i ≤ 57) : ∀ j, valAt D count (a + j) < pow10 j := by
  intro j
  induction j with
  | zero =>
    have h0 := val_lead (count := count) h.lead (by have := h.le; have := h.lt; omega) a (Nat.le_refl _)
    rw [Nat.add_zero, h0]
    show (0 : Int) < 1
    omega
  | succ j ih =>
    have h1 := dgt_bd hD (a + j)
    show valAt D count (a + j) * 10 + dgt D count (a + j) < pow10 j * 10
    omega
end

section
variable {t : Nat → Int} {n : Nat}

/-- The model's exponent and e. -/
def mEx (t : Nat → Int) (n : Nat) : Int := exOf (cSgn t n) (expAt (cE t n) 1099511627776 (cM t n))
def mE (t : Nat → Int) (n z : Nat) : Int := mEx t n - (cFl t n : Int) + ((cCount t n : Int) - 1 - (z : Int))

/-- How the two exponents stand to one another. -/
theorem two_exps (hm : n ≤ 10000000) : ∃ X : Int, 0 ≤ X ∧ cPoint t n = (cWl t n : Int) + exOf (cSgn t n) (min X ((cCount t n : Int) + 20)) ∧ mEx t n = exOf (cSgn t n) (min X 1099511627776) := by
  have hE := @cE_dig t n
  refine ⟨valAt (cE t n) (cM t n) (cM t n), valAt_nn hE _, ?_, ?_⟩
  · unfold cPoint
    rw [expAt_min (cE t n) _ (cM t n) (by omega) hE (cM t n) (Nat.le_refl _)]
    unfold cCount
    rw [show ((cWl t n + cFl t n : Nat) : Int) = (cWl t n : Int) + (cFl t n : Int) from by omega]
  · unfold mEx
    rw [expAt_min (cE t n) _ (cM t n) (by omega) hE (cM t n) (Nat.le_refl _)]

theorem count_le : cCount t n ≤ 2 * n := by
  have := pWe_le t n
  have := pFe_le t n
  unfold cCount cWl cFl
  omega

theorem m_zero (h : okNum t n) (he : pEe t n = n) (hz : ∀ i, i < cCount t n → cD t n i = 48) : IntOut t n 0 true := by
  refine .inr ⟨h, he, .inr (.inl ⟨fun ⟨i, _, h2, h3⟩ => h3 (hz i h2), ?_, ?_, rfl⟩)⟩
  all_goals
    have hv : ∀ k, valAt (cD t n) (cCount t n) k = 0 := by
      intro k
      induction k with
      | zero => rfl
      | succ k ih =>
        have h2 : dgt (cD t n) (cCount t n) k = 0 := by
          unfold dgt
          split
          · rename_i hk; rw [hz k hk]; rfl
          · rfl
        show valAt (cD t n) (cCount t n) k * 10 + dgt (cD t n) (cCount t n) k = 0
        omega
  · rw [hv]; unfold limOf; split <;> omega
  · rw [hv]; unfold signed; split <;> rfl

theorem m_neg (hm : n ≤ 10000000) (h : okNum t n) (he : pEe t n = n) {a z : Nat} (hz : NZ (cD t n) (cCount t n) a z) (hneg : mE t n z < 0) : IntOut t n 0 false := by
  obtain ⟨X, hX, hp, hq⟩ := two_exps (t := t) hm
  have hc := count_le (t := t) (n := n)
  have hlt := hz.lt
  refine .inr ⟨h, he, .inl ⟨⟨z, ?_, hz.lt, hz.last⟩, rfl, rfl⟩⟩
  have hcc : (cCount t n : Int) = (cWl t n : Int) + (cFl t n : Int) := by unfold cCount; omega
  unfold mE at hneg
  rw [hq] at hneg
  rw [hp]
  unfold exOf at hneg ⊢
  split at hneg <;> simp_all <;> omega

theorem m_point (hm : n ≤ 10000000) {a z : Nat} (hz : NZ (cD t n) (cCount t n) a z) (hpos : 0 ≤ mE t n z) :
    (z : Int) < cPoint t n ∧ (cPoint t n = (z : Int) + 1 + mE t n z ∨ ((z : Int) + 1 + 20 ≤ cPoint t n ∧ 20 ≤ mE t n z)) := by
  obtain ⟨X, hX, hp, hq⟩ := two_exps (t := t) hm
  have hc := count_le (t := t) (n := n)
  have hlt := hz.lt
  have hcc : (cCount t n : Int) = (cWl t n : Int) + (cFl t n : Int) := by unfold cCount; omega
  unfold mE at hpos ⊢
  rw [hq] at hpos ⊢
  rw [hp]
  unfold exOf at hpos ⊢
  split at hpos <;> rename_i hs
  · rw [if_pos hs, if_pos hs]
    omega
  · rw [if_neg hs, if_neg hs]
    omega

theorem not_bad {a z : Nat} (hz : NZ (cD t n) (cCount t n) a z) (h : (z : Int) < cPoint t n) : ¬ Bad (cD t n) (cCount t n) (cPoint t n) := by
  rintro ⟨i, h1, h2, h3⟩
  exact h3 (hz.tail i (by omega) h2)

theorem m_big (hm : n ≤ 10000000) (h : okNum t n) (he : pEe t n = n) {a z : Nat} (hz : NZ (cD t n) (cCount t n) a z) (hpos : 0 ≤ mE t n z) (hbig : 19 < (z : Int) - (a : Int) + 1 + mE t n z) : IntOut t n 0 false := by
  obtain ⟨h1, h2⟩ := m_point hm hz hpos
  refine .inr ⟨h, he, .inr (.inr ⟨not_bad hz h1, ?_, rfl, rfl⟩)⟩
  have hle := hz.le
  have hD := @cD_dig t n
  obtain ⟨j, hj⟩ : ∃ j, (cPoint t n).toNat = a + 1 + j := ⟨(cPoint t n).toNat - (a + 1), by omega⟩
  have hg := hz.ge hD j
  have h19 : pow10 19 ≤ pow10 j := pow10_mono 19 j (by omega)
  rw [pow10_19] at h19
  rw [hj]
  unfold limOf
  split <;> omega

/-- Where the value has at most 19 digits. -/
theorem m_small (hm : n ≤ 10000000) {a z : Nat} (hz : NZ (cD t n) (cCount t n) a z) (hpos : 0 ≤ mE t n z) (hs : (z : Int) - (a : Int) + 1 + mE t n z ≤ 19) :
    cPoint t n = (z : Int) + 1 + mE t n z ∧ ∀ k, k ≤ (cPoint t n).toNat → valAt (cD t n) (cCount t n) k ≤ 9999999999999999999 := by
  obtain ⟨h1, h2⟩ := m_point hm hz hpos
  have hle := hz.le
  have hp : cPoint t n = (z : Int) + 1 + mE t n z := by omega
  refine ⟨hp, fun k hk => ?_⟩
  have hD := @cD_dig t n
  have h3 := valAt_mono hD k _ hk
  obtain ⟨j, hj⟩ : ∃ j, (cPoint t n).toNat = a + j := ⟨(cPoint t n).toNat - a, by omega⟩
  have h4 := hz.lt_pow hD j
  have h5 : pow10 j ≤ pow10 19 := pow10_mono j 19 (by omega)
  rw [pow10_19] at h5
  rw [hj] at h3
  omega

theorem m_val (hm : n ≤ 10000000) (h : okNum t n) (he : pEe t n = n) {a z : Nat} (hz : NZ (cD t n) (cCount t n) a z) (hpos : 0 ≤ mE t n z) {u : Int} (hu : valAt (cD t n) (cCount t n) (cPoint t n).toNat = u) :
    (u ≤ limOf (pNeg t n) → IntOut t n (signed (pNeg t n) u) true) ∧ (limOf (pNeg t n) < u → IntOut t n 0 false) := by
  obtain ⟨h1, _⟩ := m_point hm hz hpos
  refine ⟨fun hl => .inr ⟨h, he, .inr (.inl ⟨not_bad hz h1, by rw [hu]; exact hl, by rw [hu], rfl⟩)⟩, fun hl => .inr ⟨h, he, .inr (.inr ⟨not_bad hz h1, by rw [hu]; exact hl, rfl, rfl⟩)⟩⟩

theorem m_fail (h : ¬ (okNum t n ∧ pEe t n = n)) : IntOut t n 0 false := .inl ⟨h, rfl, rfl⟩
end

end Go.Proofs.Qxb6629257a.W
