import Derived.Test.Qxb6629257aWalksD
import Derived.Test.Qxb6629257aWalksE
namespace Go.Proofs.Qxb6629257a.W
open Go.RowKit
set_option linter.unusedVariables false

/-! ### Texts that are laid out of parts -/

def Seg (t : Nat → Int) (off : Nat) (L : List Int) : Prop := ∀ i, i < L.length → t (off + i) = L.getD i 0
def Digs (L : List Int) : Prop := ∀ i, i < L.length → 48 ≤ L.getD i 0 ∧ L.getD i 0 ≤ 57

/-- A number's text: a sign or none, the whole part W, a fraction Fd or none, an exponent Ed (behind a plus or none) or none; and nothing else. -/
structure Lay (t : Nat → Int) (n : Nat) (neg : Bool) (W : List Int) (dot : Bool) (Fd : List Int) (ex plus : Bool) (Ed : List Int) : Prop where
  sign : neg = true → t 0 = 45
  whole : Seg t (if neg then 1 else 0) W
  wdig : Digs W
  wpos : 0 < W.length
  wzero : W.getD 0 0 = 48 → W.length = 1
  dotc : dot = true → t ((if neg then 1 else 0) + W.length) = 46
  frac : dot = true → Seg t ((if neg then 1 else 0) + W.length + 1) Fd
  fdig : Digs Fd
  fpos : dot = true → 0 < Fd.length
  fnil : dot = false → Fd = []
  expc : ex = true → t ((if neg then 1 else 0) + W.length + (if dot then 1 + Fd.length else 0)) = 101 ∨ t ((if neg then 1 else 0) + W.length + (if dot then 1 + Fd.length else 0)) = 69
  plusc : ex = true → plus = true → t ((if neg then 1 else 0) + W.length + (if dot then 1 + Fd.length else 0) + 1) = 43
  expd : ex = true → Seg t ((if neg then 1 else 0) + W.length + (if dot then 1 + Fd.length else 0) + 1 + (if plus then 1 else 0)) Ed
  edig : Digs Ed
  epos : ex = true → 0 < Ed.length
  enil : ex = false → Ed = []
  len : n = (if neg then 1 else 0) + W.length + (if dot then 1 + Fd.length else 0) + (if ex then 1 + (if plus then 1 else 0) + Ed.length else 0)

section
variable {t : Nat → Int} {n : Nat} {neg : Bool} {W : List Int} {dot : Bool} {Fd : List Int} {ex plus : Bool} {Ed : List Int}

theorem seg_run {i : Nat} {L : List Int} (hs : Seg t i L) (hd : Digs L) (hn : i + L.length ≤ n) (hst : i + L.length < n → ¬ (48 ≤ t (i + L.length) ∧ t (i + L.length) ≤ 57)) : DigRun t n i (i + L.length) := by
  refine ⟨by omega, hn, fun k a b => ?_, hst⟩
  have h := hs (k - i) (by omega)
  rw [show i + (k - i) = k from by omega] at h
  rw [h]
  exact hd (k - i) (by omega)

theorem Lay.first (h : Lay t n neg W dot Fd ex plus Ed) : t (if neg then 1 else 0) = W.getD 0 0 := by
  have := h.whole 0 h.wpos
  simpa using this

theorem Lay.pneg (h : Lay t n neg W dot Fd ex plus Ed) : pNeg t n = neg := by
  have hw := h.wpos
  have hl := h.len
  unfold pNeg
  cases neg with
  | true => exact decide_eq_true ⟨by simp at hl; omega, h.sign rfl⟩
  | false =>
    refine decide_eq_false (fun hh => ?_)
    have h1 : t 0 = W.getD 0 0 := h.first
    have h2 := (h.wdig 0 hw).1
    rw [← h1, hh.2] at h2
    omega

theorem Lay.pws (h : Lay t n neg W dot Fd ex plus Ed) : pWs t n = if neg then 1 else 0 := by
  unfold pWs
  rw [h.pneg]

/-- The byte behind the whole part is no digit. -/
theorem Lay.stop1 (h : Lay t n neg W dot Fd ex plus Ed) (hlt : (if neg then 1 else 0) + W.length < n) : ¬ (48 ≤ t ((if neg then 1 else 0) + W.length) ∧ t ((if neg then 1 else 0) + W.length) ≤ 57) := by
  intro hh
  cases hd : dot with
  | true => have := h.dotc hd; omega
  | false =>
    cases he : ex with
    | true =>
      have := h.expc he
      rw [hd] at this
      simp only [Bool.false_eq_true, if_false, Nat.add_zero] at this
      omega
    | false =>
      have := h.len
      rw [hd, he] at this
      simp at this
      omega

theorem Lay.pwe (h : Lay t n neg W dot Fd ex plus Ed) : pWe t n = (if neg then 1 else 0) + W.length := by
  have hl := h.len
  have hw := h.wpos
  have hf := h.first
  have hle : (if neg then 1 else 0) + W.length ≤ n := by rw [hl]; omega
  cases hz : pZero t n with
  | true =>
    have hz' := hz
    unfold pZero at hz'
    rw [h.pws] at hz'
    simp only [decide_eq_true_eq] at hz'
    have h48 : W.getD 0 0 = 48 := by rw [← hf]; exact hz'.2
    unfold pWe
    rw [if_pos hz, h.pws, h.wzero h48]
  | false =>
    have r1 := pWe_run t n hz
    rw [h.pws] at r1
    exact r1.uniq (seg_run h.whole h.wdig hle h.stop1)

theorem Lay.pdot (h : Lay t n neg W dot Fd ex plus Ed) : pDot t n = dot := by
  have hl := h.len
  unfold pDot
  rw [h.pwe]
  cases hd : dot with
  | true =>
    refine decide_eq_true ⟨?_, h.dotc hd⟩
    rw [hd] at hl
    simp only [if_true] at hl
    omega
  | false =>
    refine decide_eq_false (fun hh => ?_)
    cases he : ex with
    | true =>
      have := h.expc he
      rw [hd] at this
      simp only [Bool.false_eq_true, if_false, Nat.add_zero] at this
      omega
    | false =>
      rw [hd, he] at hl
      simp only [Bool.false_eq_true, if_false, Nat.add_zero] at hl
      omega

theorem Lay.pfs (h : Lay t n neg W dot Fd ex plus Ed) : pFs t n = (if neg then 1 else 0) + W.length + (if dot then 1 else 0) := by
  unfold pFs
  rw [h.pdot, h.pwe]
  cases dot <;> simp

theorem Lay.stop2 (h : Lay t n neg W dot Fd ex plus Ed) (hlt : (if neg then 1 else 0) + W.length + (if dot then 1 + Fd.length else 0) < n) :
    ¬ (48 ≤ t ((if neg then 1 else 0) + W.length + (if dot then 1 + Fd.length else 0)) ∧ t ((if neg then 1 else 0) + W.length + (if dot then 1 + Fd.length else 0)) ≤ 57) := by
  intro hh
  cases he : ex with
  | true =>
    have := h.expc he
    omega
  | false =>
    have := h.len
    rw [he] at this
    simp only [Bool.false_eq_true, if_false, Nat.add_zero] at this
    omega

theorem Lay.pfe (h : Lay t n neg W dot Fd ex plus Ed) : pFe t n = (if neg then 1 else 0) + W.length + (if dot then 1 + Fd.length else 0) := by
  have hl := h.len
  cases hd : dot with
  | false =>
    unfold pFe
    rw [h.pdot, hd, h.pwe]
    simp
  | true =>
    have hst := h.stop2
    rw [hd] at hst hl
    simp only [if_true] at hst hl ⊢
    have r1 := pFe_run t n (by rw [h.pdot, hd])
    rw [h.pfs, hd] at r1
    simp only [if_true] at r1
    rw [show (if neg then 1 else 0) + W.length + (1 + Fd.length) = (if neg then 1 else 0) + W.length + 1 + Fd.length from by omega] at hst ⊢
    refine r1.uniq (seg_run (h.frac hd) h.fdig (by omega) hst)

theorem Lay.pexp (h : Lay t n neg W dot Fd ex plus Ed) : pExp t n = ex := by
  have hl := h.len
  unfold pExp pE pE2
  rw [h.pfe]
  cases he : ex with
  | true =>
    have hlt : (if neg then 1 else 0) + W.length + (if dot then 1 + Fd.length else 0) < n := by
      rw [he] at hl
      simp only [if_true] at hl
      omega
    rcases h.expc he with h1 | h1
    · rw [decide_eq_true (And.intro hlt h1)]; rfl
    · rw [decide_eq_true (p := _ ∧ t _ = 69) (And.intro hlt h1)]; simp
  | false =>
    rw [he] at hl
    simp only [Bool.false_eq_true, if_false, Nat.add_zero] at hl
    rw [decide_eq_false (fun hh => by omega), decide_eq_false (fun hh => by omega)]
    rfl

theorem Lay.pes (h : Lay t n neg W dot Fd ex plus Ed) : pEs t n = (if neg then 1 else 0) + W.length + (if dot then 1 + Fd.length else 0) + (if ex then 1 else 0) := by
  unfold pEs
  rw [h.pexp, h.pfe]
  cases ex <;> simp

/-- The byte behind the exponent's letter. -/
theorem Lay.at_es (h : Lay t n neg W dot Fd ex plus Ed) (he : ex = true) : pEs t n < n ∧ ((plus = true ∧ t (pEs t n) = 43) ∨ (plus = false ∧ 48 ≤ t (pEs t n))) := by
  have hl := h.len
  have hp := h.epos he
  have e := h.pes
  rw [he] at hl e
  simp only [if_true] at hl e
  refine ⟨by omega, ?_⟩
  cases hpl : plus with
  | true => left; exact ⟨rfl, by rw [e]; exact h.plusc he hpl⟩
  | false =>
    right
    refine ⟨rfl, ?_⟩
    have h1 := h.expd he 0 hp
    rw [hpl] at h1
    simp only [Bool.false_eq_true, if_false, Nat.add_zero] at h1
    rw [e, h1]
    exact (h.edig 0 hp).1

theorem Lay.pminus (h : Lay t n neg W dot Fd ex plus Ed) (he : ex = true) : pMinus t n = false := by
  obtain ⟨h1, h2⟩ := h.at_es he
  unfold pMinus
  refine decide_eq_false (fun hh => ?_)
  rcases h2 with ⟨_, h2⟩ | ⟨_, h2⟩ <;> omega

theorem Lay.pplus (h : Lay t n neg W dot Fd ex plus Ed) (he : ex = true) : pPlus t n = plus := by
  obtain ⟨h1, h2⟩ := h.at_es he
  unfold pPlus
  rcases h2 with ⟨hp, h2⟩ | ⟨hp, h2⟩
  · rw [hp]; exact decide_eq_true ⟨h1, h2⟩
  · rw [hp]; exact decide_eq_false (fun hh => by omega)

theorem Lay.pds (h : Lay t n neg W dot Fd ex plus Ed) (he : ex = true) : pDs t n = (if neg then 1 else 0) + W.length + (if dot then 1 + Fd.length else 0) + 1 + (if plus then 1 else 0) := by
  unfold pDs
  rw [h.pplus he, h.pminus he, h.pes, he]
  cases plus <;> simp

theorem Lay.pee (h : Lay t n neg W dot Fd ex plus Ed) : pEe t n = n := by
  have hl := h.len
  cases he : ex with
  | false =>
    unfold pEe
    rw [h.pexp, he, h.pfe]
    rw [he] at hl
    simp only [Bool.false_eq_true, if_false, Nat.add_zero] at hl ⊢
    exact hl.symm
  | true =>
    have r1 := pEe_run t n (by rw [h.pexp, he])
    rw [h.pds he] at r1
    rw [he] at hl
    simp only [if_true] at hl
    rw [r1.uniq (seg_run (h.expd he) h.edig (by omega) (fun hlt => by omega))]
    omega

theorem Lay.ok (h : Lay t n neg W dot Fd ex plus Ed) : okNum t n := by
  have hw := h.wpos
  refine ⟨by rw [h.pws, h.pwe]; omega, fun hd => ?_, fun he => ?_⟩
  · rw [h.pdot] at hd
    have := h.fpos hd
    rw [h.pfs, h.pfe, hd]
    simp only [if_true]
    omega
  · rw [h.pexp] at he
    have := h.epos he
    have hl := h.len
    rw [h.pee, h.pds he]
    rw [he] at hl
    simp only [if_true] at hl
    omega

theorem Lay.cwl (h : Lay t n neg W dot Fd ex plus Ed) : cWl t n = W.length := by
  unfold cWl; rw [h.pws, h.pwe]; omega

theorem Lay.cfl (h : Lay t n neg W dot Fd ex plus Ed) : cFl t n = Fd.length := by
  unfold cFl; rw [h.pfs, h.pfe]
  cases hd : dot with
  | true => simp only [if_true]; omega
  | false => rw [h.fnil hd]; simp

theorem Lay.csgn (h : Lay t n neg W dot Fd ex plus Ed) : cSgn t n = false := by
  unfold cSgn
  rw [h.pexp]
  cases he : ex with
  | true => rw [h.pminus he]; rfl
  | false => rfl

theorem Lay.cm (h : Lay t n neg W dot Fd ex plus Ed) : cM t n = Ed.length := by
  cases he : ex with
  | false => rw [cM_exp (by rw [h.pexp, he]), h.enil he]; rfl
  | true =>
    have hl := h.len
    unfold cM
    rw [h.pee, h.pds he]
    rw [he] at hl
    simp only [if_true] at hl
    omega

theorem Lay.ce (h : Lay t n neg W dot Fd ex plus Ed) : ∀ k, k < Ed.length → cE t n k = Ed.getD k 0 := by
  intro k hk
  cases he : ex with
  | false => rw [h.enil he] at hk; simp at hk
  | true =>
    unfold cE
    rw [h.pds he]
    exact h.expd he k hk

/-- The row of the digits: the whole part's and the fraction's. -/
theorem Lay.cd (h : Lay t n neg W dot Fd ex plus Ed) : ∀ i, i < (W ++ Fd).length → cD t n i = (W ++ Fd).getD i 0 := by
  intro i hi
  unfold cD
  rw [h.cwl]
  by_cases hlt : i < W.length
  · rw [if_pos hlt, h.pws, h.whole i hlt]
    simp [List.getD, List.getElem?_append_left hlt]
  · rw [if_neg hlt]
    have hd : dot = true := by
      cases hd : dot with
      | true => rfl
      | false => rw [h.fnil hd] at hi; simp at hi; omega
    rw [h.pfs, hd]
    simp only [if_true]
    simp only [List.length_append] at hi
    rw [h.frac hd (i - W.length) (by omega)]
    simp [List.getD, List.getElem?_append_right (show W.length ≤ i by omega)]

theorem Lay.ccount (h : Lay t n neg W dot Fd ex plus Ed) : cCount t n = (W ++ Fd).length := by
  unfold cCount; rw [h.cwl, h.cfl, List.length_append]

end

/-! ### The values -/

/-- The value of a row of digits. -/
def valL : List Int → Int → Int
  | [], a => a
  | d :: L, a => valL L (a * 10 + (d - 48))

theorem valL_append : ∀ (L M : List Int) (a : Int), valL (L ++ M) a = valL M (valL L a)
  | [], M, a => rfl
  | d :: L, M, a => valL_append L M _

theorem valL_zeros : ∀ (k : Nat), valL (List.replicate k 48) 0 = 0
  | 0 => rfl
  | k + 1 => by show valL (List.replicate k 48) (0 * 10 + (48 - 48)) = 0; exact valL_zeros k

theorem valAt_list (D : Nat → Int) (count : Nat) (L : List Int) (hc : L.length ≤ count) (hD : ∀ i, i < L.length → D i = L.getD i 0) : ∀ k, k ≤ L.length → valAt D count k = valL (L.take k) 0 := by
  intro k
  induction k with
  | zero => intro _; rfl
  | succ k ih =>
    intro hk
    rw [← take_getD L k (by omega), valL_append, ← ih (by omega)]
    show valAt D count k * 10 + dgt D count k = valAt D count k * 10 + (L.getD k 0 - 48)
    unfold dgt
    rw [if_pos (by omega), hD k (by omega)]

theorem valL_dec : ∀ (f : Nat) (u : Int), 0 ≤ u → ltPow f u → valL (decR f u) 0 = u
  | 0, u, h0, h => by
    have : u < 1 := h
    show (0 : Int) = u
    omega
  | f + 1, u, h0, h => by
    by_cases hz : u = 0
    · subst hz; rw [decR_zero]; rfl
    · rw [decR_step f u hz, valL_append, valL_dec f (u / 10) (by omega) h]
      show u / 10 * 10 + (48 + u % 10 - 48) = u
      omega

theorem valL_decL (u : Int) (h0 : 0 ≤ u) (h1 : u < 100000000000000000000) : valL (decL u) 0 = u := by
  unfold decL
  split
  · rename_i h; subst h; rfl
  · exact valL_dec 20 u h0 (ltPow_20 u h1)

theorem getD_left {L M : List Int} {i : Nat} (h : i < L.length) : (L ++ M).getD i 0 = L.getD i 0 := by simp [List.getD, List.getElem?_append_left h]
theorem getD_right {L M : List Int} {i : Nat} (h : L.length ≤ i) : (L ++ M).getD i 0 = M.getD (i - L.length) 0 := by simp [List.getD, List.getElem?_append_right h]

theorem digs_append {L M : List Int} (hL : Digs L) (hM : Digs M) : Digs (L ++ M) := by
  intro i hi
  by_cases h : i < L.length
  · have e : (L ++ M).getD i 0 = L.getD i 0 := by simp [List.getD, List.getElem?_append_left h]
    rw [e]; exact hL i h
  · have e : (L ++ M).getD i 0 = M.getD (i - L.length) 0 := by simp [List.getD, List.getElem?_append_right (show L.length ≤ i by omega)]
    rw [e]; exact hM _ (by simp at hi; omega)

theorem digs_one {x : Int} (h : 48 ≤ x ∧ x ≤ 57) : Digs [x] := by
  intro i hi
  have : i = 0 := by simpa using hi
  subst this
  exact h

theorem digs_zeros (k : Nat) : Digs (List.replicate k 48) := by
  intro i hi
  simp at hi
  simp [List.getD, hi]

theorem digs_decR : ∀ (f : Nat) (u : Int), 0 ≤ u → Digs (decR f u)
  | 0, u, _ => fun i hi => by simp [decR] at hi
  | f + 1, u, h0 => by
    by_cases hz : u = 0
    · subst hz; rw [decR_zero]; intro i hi; simp at hi
    · rw [decR_step f u hz]
      exact digs_append (digs_decR f (u / 10) (by omega)) (digs_one (by omega))

theorem digs_decL (u : Int) (h0 : 0 ≤ u) : Digs (decL u) := by
  unfold decL
  split
  · exact digs_one (by omega)
  · exact digs_decR 20 u h0

/-- The first digit is 0 for the number 0 alone. -/
theorem decR_first : ∀ (f : Nat) (u : Int), 0 < u → ltPow f u → 0 < (decR f u).length ∧ (decR f u).getD 0 0 ≠ 48
  | 0, u, h0, h => by have : u < 1 := h
                      omega
  | f + 1, u, h0, h => by
    rw [decR_step f u (by omega)]
    by_cases hq : u / 10 = 0
    · rw [hq, decR_zero]
      refine ⟨by simp, ?_⟩
      show (48 + u % 10 : Int) ≠ 48
      omega
    · obtain ⟨a, b⟩ := decR_first f (u / 10) (by omega) h
      refine ⟨by simp, ?_⟩
      rw [getD_left a]; exact b

theorem decL_first (u : Int) (h0 : 0 ≤ u) (h1 : u < 100000000000000000000) : 0 < (decL u).length ∧ ((decL u).getD 0 0 = 48 → (decL u).length = 1) := by
  unfold decL
  split
  · simp
  · obtain ⟨a, b⟩ := decR_first 20 u (by omega) (ltPow_20 u h1)
    exact ⟨a, fun h => absurd h b⟩

theorem exp_eq (E : Nat → Int) (B : Int) (m : Nat) (hE : ∀ k, k < m → 48 ≤ E k ∧ E k ≤ 57) (hB : valAt E m m ≤ B) : ∀ k, k ≤ m → expAt E B k = valAt E m k := by
  intro k
  induction k with
  | zero => intro _; rfl
  | succ k ih =>
    intro hk
    have h1 := ih (by omega)
    have h2 := valAt_mono (D := E) (count := m) hE (k + 1) m hk
    show min (expAt E B k * 10 + (E k - 48)) B = valAt E m k * 10 + dgt E m k
    have h3 : valAt E m (k + 1) = valAt E m k * 10 + dgt E m k := rfl
    have h4 : dgt E m k = E k - 48 := by unfold dgt; rw [if_pos (by omega)]
    rw [h1]
    omega

end Go.Proofs.Qxb6629257a.W
