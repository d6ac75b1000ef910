import Derived.Test.Qxb6629257aPlainB
import Derived.Test.Qxb6629257aWalksF
namespace Go.Proofs.Qxb6629257a.W
open Go.RowKit
set_option linter.unusedVariables false

theorem rep_getD {z j : Nat} (h : j < z) : (List.replicate z (48 : Int)).getD j 0 = 48 := by simp [List.getD, h]

section
variable {t : Nat → Int} {n : Nat} {neg : Bool} {W : List Int} {dot : Bool} {Fd : List Int} {ex plus : Bool} {Ed : List Int}

theorem Lay.point (h : Lay t n neg W dot Fd ex plus Ed) (hB : valL Ed 0 ≤ (W.length : Int) + (Fd.length : Int) + 20) : cPoint t n = (W.length : Int) + valL Ed 0 := by
  have hv : ∀ k, k ≤ Ed.length → valAt (cE t n) Ed.length k = valL (Ed.take k) 0 := valAt_list (cE t n) Ed.length Ed (Nat.le_refl _) h.ce
  have hv2 := hv Ed.length (Nat.le_refl _)
  rw [List.take_length] at hv2
  have hE : ∀ k, k < Ed.length → 48 ≤ cE t n k ∧ cE t n k ≤ 57 := fun k hk => by rw [h.ce k hk]; exact h.edig k hk
  unfold cPoint
  rw [h.csgn, h.cm, h.cwl, h.cfl, exp_eq (cE t n) _ Ed.length hE (by rw [hv2]; exact hB) Ed.length (Nat.le_refl _), hv2]
  rfl

theorem Lay.val (h : Lay t n neg W dot Fd ex plus Ed) {A Z : List Int} (e : W ++ Fd = A ++ Z) : valAt (cD t n) (cCount t n) A.length = valL A 0 := by
  rw [h.ccount, valAt_list (cD t n) (W ++ Fd).length (W ++ Fd) (Nat.le_refl _) h.cd A.length (by rw [e]; simp), e]
  simp

/-- The digits behind the point are noughts: the value is the digits' ahead of it. -/
theorem Lay.good (h : Lay t n neg W dot Fd ex plus Ed) (hB : valL Ed 0 ≤ (W.length : Int) + (Fd.length : Int) + 20) {A : List Int} {z : Nat} (e : W ++ Fd = A ++ List.replicate z 48) (hA : (A.length : Int) = (W.length : Int) + valL Ed 0)
    (hlim : valL A 0 ≤ limOf neg) {v : Int} {ok : Bool} (ho : IntOut t n v ok) : v = signed neg (valL A 0) ∧ ok = true := by
  have hp := h.point hB
  rw [← hA] at hp
  have hnb : ¬ Bad (cD t n) (cCount t n) (cPoint t n) := by
    rintro ⟨i, h1, h2, h3⟩
    rw [hp] at h1
    rw [h.ccount] at h2
    rw [h.cd i h2, e, getD_right (by omega)] at h3
    rw [e] at h2
    simp at h2
    exact h3 (rep_getD (by omega))
  rcases ho with ⟨hno, _⟩ | ⟨_, _, hr⟩
  · exact absurd ⟨h.ok, h.pee⟩ hno
  · rw [h.pneg] at hr
    rw [hp] at hr hnb
    have hval := h.val e
    rcases hr with ⟨hb, _⟩ | ⟨_, _, h3, h4⟩ | ⟨_, h2, _⟩
    · exact absurd hb hnb
    · rw [Int.toNat_natCast, hval] at h3
      exact ⟨h3, h4⟩
    · rw [Int.toNat_natCast, hval] at h2
      omega

/-- A digit behind the point is no nought. -/
theorem Lay.bad (h : Lay t n neg W dot Fd ex plus Ed) (hB : valL Ed 0 ≤ (W.length : Int) + (Fd.length : Int) + 20) (i : Nat) (hi : (W.length : Int) + valL Ed 0 ≤ (i : Int)) (hi2 : i < (W ++ Fd).length) (hne : (W ++ Fd).getD i 0 ≠ 48)
    {v : Int} {ok : Bool} (ho : IntOut t n v ok) : v = 0 ∧ ok = false := by
  have hp := h.point hB
  have hb : Bad (cD t n) (cCount t n) (cPoint t n) := ⟨i, by rw [hp]; exact hi, by rw [h.ccount]; exact hi2, by rw [h.cd i hi2]; exact hne⟩
  rcases ho with ⟨hno, _⟩ | ⟨_, _, hr⟩
  · exact absurd ⟨h.ok, h.pee⟩ hno
  · rcases hr with ⟨_, h1, h2⟩ | ⟨hnb, _⟩ | ⟨hnb, _⟩
    · exact ⟨h1, h2⟩
    · exact absurd hb hnb
    · exact absurd hb hnb
end

theorem seg_mid (P Q R : List Int) (k : Nat) (hk : P.length = k) : Seg (fun j => (P ++ (Q ++ R)).getD j 0) k Q := by
  intro i hi
  show (P ++ (Q ++ R)).getD (k + i) 0 = Q.getD i 0
  rw [getD_right (by omega), show k + i - P.length = i from by omega, getD_left hi]

theorem at_mid (P : List Int) (x : Int) (R : List Int) (k : Nat) (hk : P.length = k) : (P ++ x :: R).getD k 0 = x := by
  rw [getD_right (by omega), show k - P.length = 0 from by omega]
  rfl

theorem signL_len (neg : Bool) : (signL neg).length = if neg then 1 else 0 := by cases neg <;> rfl
theorem expL_len (upper : Bool) : (expL upper).length = 1 + if upper then 1 else 0 := by cases upper <;> rfl

theorem lay_plain (neg : Bool) (S : List Int) (hd : Digs S) (hp : 0 < S.length) (hz : S.getD 0 0 = 48 → S.length = 1) :
    Lay (fun j => (signL neg ++ S).getD j 0) (signL neg ++ S).length neg S false [] false false [] where
  sign := fun h => by subst h; rfl
  whole := by have := seg_mid (signL neg) S [] _ (signL_len neg); simpa using this
  wdig := hd
  wpos := hp
  wzero := hz
  dotc := fun h => by cases h
  frac := fun h => by cases h
  fdig := fun i hi => by simp at hi
  fpos := fun h => by cases h
  fnil := fun _ => rfl
  expc := fun h => by cases h
  plusc := fun h => by cases h
  expd := fun h => by cases h
  edig := fun i hi => by simp at hi
  epos := fun h => by cases h
  enil := fun _ => rfl
  len := by simp [signL_len]

/-- The text of a scaled form, by its parts. -/
def formT (neg : Bool) (W : List Int) (dot : Bool) (Fd : List Int) (upper : Bool) (Ed : List Int) : List Int :=
  signL neg ++ (W ++ ((if dot then 46 :: Fd else []) ++ (expL upper ++ Ed)))

theorem formT_len (neg : Bool) (W : List Int) (dot : Bool) (Fd : List Int) (upper : Bool) (Ed : List Int) :
    (formT neg W dot Fd upper Ed).length = (if neg then 1 else 0) + W.length + (if dot then 1 + Fd.length else 0) + (1 + (if upper then 1 else 0) + Ed.length) := by
  unfold formT
  cases dot <;> simp [signL_len, expL_len] <;> omega

theorem lay_form (neg : Bool) (W : List Int) (dot : Bool) (Fd : List Int) (upper : Bool) (Ed : List Int) (hw : Digs W) (hwp : 0 < W.length) (hwz : W.getD 0 0 = 48 → W.length = 1)
    (hf : Digs Fd) (hfp : dot = true → 0 < Fd.length) (hfn : dot = false → Fd = []) (he : Digs Ed) (hep : 0 < Ed.length) :
    Lay (fun j => (formT neg W dot Fd upper Ed).getD j 0) (formT neg W dot Fd upper Ed).length neg W dot Fd true upper Ed where
  sign := fun h => by subst h; rfl
  whole := seg_mid (signL neg) W _ _ (signL_len neg)
  wdig := hw
  wpos := hwp
  wzero := hwz
  dotc := fun h => by
    subst h
    show (signL neg ++ (W ++ (46 :: Fd ++ (expL upper ++ Ed)))).getD _ 0 = 46
    rw [← List.append_assoc, List.cons_append]
    exact at_mid _ 46 _ _ (by simp [signL_len])
  frac := fun h => by
    subst h
    have := seg_mid (signL neg ++ W ++ [46]) Fd (expL upper ++ Ed) ((if neg then 1 else 0) + W.length + 1) (by simp [signL_len]; omega)
    simpa [formT] using this
  fdig := hf
  fpos := hfp
  fnil := hfn
  expc := fun _ => by
    show (signL neg ++ (W ++ ((if dot then 46 :: Fd else []) ++ (expL upper ++ Ed)))).getD _ 0 = 101 ∨ (signL neg ++ (W ++ ((if dot then 46 :: Fd else []) ++ (expL upper ++ Ed)))).getD _ 0 = 69
    rw [← List.append_assoc, ← List.append_assoc]
    have hl : (signL neg ++ W ++ (if dot then 46 :: Fd else [])).length = (if neg then 1 else 0) + W.length + (if dot then 1 + Fd.length else 0) := by
      cases dot <;> simp [signL_len] <;> omega
    cases upper with
    | true => right; exact at_mid _ 69 (43 :: Ed) _ hl
    | false => left; exact at_mid _ 101 Ed _ hl
  plusc := fun _ h => by
    subst h
    show (signL neg ++ (W ++ ((if dot then 46 :: Fd else []) ++ ([69, 43] ++ Ed)))).getD _ 0 = 43
    have e : signL neg ++ (W ++ ((if dot then 46 :: Fd else []) ++ ([69, 43] ++ Ed))) = (signL neg ++ W ++ (if dot then 46 :: Fd else []) ++ [69]) ++ 43 :: Ed := by simp
    rw [e]
    refine at_mid _ 43 Ed _ ?_
    cases dot <;> simp [signL_len] <;> omega
  expd := fun _ => by
    have hl : (signL neg ++ W ++ (if dot then 46 :: Fd else []) ++ expL upper).length = (if neg then 1 else 0) + W.length + (if dot then 1 + Fd.length else 0) + 1 + (if upper then 1 else 0) := by
      cases dot <;> simp [signL_len, expL_len] <;> omega
    have := seg_mid (signL neg ++ W ++ (if dot then 46 :: Fd else []) ++ expL upper) Ed [] _ hl
    simpa [formT] using this
  edig := he
  epos := fun _ => hep
  enil := fun h => by cases h
  len := by
    rw [formT_len]
    simp

/-- zzBuildForm's list is a form's text. -/
theorem build_form (neg extra upper : Bool) (S : List Int) (shift zeros : Nat) (Ed : List Int) :
    ∃ W dot Fd, signL neg ++ midL S shift zeros extra ++ List.replicate zeros 48 ++ extraL extra ++ expL upper ++ Ed = formT neg W dot Fd upper Ed ∧
      ((shift = 0 ∧ W = S ∧ Fd = List.replicate zeros 48 ++ extraL extra ∧ (dot = true ↔ (0 < zeros ∨ extra = true))) ∨
       (0 < shift ∧ shift < S.length ∧ dot = true ∧ W = S.take (S.length - shift) ∧ Fd = S.drop (S.length - shift) ++ List.replicate zeros 48 ++ extraL extra) ∨
       (0 < shift ∧ S.length ≤ shift ∧ dot = true ∧ W = [48] ∧ Fd = List.replicate (shift - S.length) 48 ++ S ++ List.replicate zeros 48 ++ extraL extra)) := by
  by_cases h0 : shift = 0
  · by_cases hz : 0 < zeros ∨ extra = true
    · refine ⟨S, true, _, ?_, .inl ⟨h0, rfl, rfl, by simp [hz]⟩⟩
      unfold midL formT
      rw [if_pos h0, if_pos hz]
      simp
    · have hz0 : zeros = 0 := by omega
      have hx : extra = false := by cases extra <;> simp_all
      subst hz0 hx
      refine ⟨S, false, _, ?_, .inl ⟨h0, rfl, rfl, by simp⟩⟩
      unfold midL formT
      rw [if_pos h0]
      simp [extraL]
  · by_cases h1 : shift < S.length
    · refine ⟨_, true, _, ?_, .inr (.inl ⟨by omega, h1, rfl, rfl, rfl⟩)⟩
      unfold midL formT
      rw [if_neg h0, if_pos h1]
      simp
    · refine ⟨_, true, _, ?_, .inr (.inr ⟨by omega, by omega, rfl, rfl, rfl⟩)⟩
      unfold midL formT
      rw [if_neg h0, if_neg h1]
      simp

theorem digs_extra (extra : Bool) : Digs (extraL extra) := by
  cases extra with
  | true => exact digs_one (by omega)
  | false => intro i hi; simp [extraL] at hi

theorem take_at {L : List Int} {k i : Nat} (h : i < k) : (L.take k).getD i 0 = L.getD i 0 := by
  unfold List.getD
  rw [List.getElem?_take, if_pos h]

theorem digs_take {L : List Int} (h : Digs L) (k : Nat) : Digs (L.take k) := by
  intro i hi
  have hi2 : i < min k L.length := by simpa using hi
  rw [take_at (by omega)]
  exact h i (by omega)

theorem digs_drop {L : List Int} (h : Digs L) (k : Nat) : Digs (L.drop k) := by
  intro i hi
  simp at hi
  have e : (L.drop k).getD i 0 = L.getD (k + i) 0 := by simp [List.getD]
  rw [e]
  exact h (k + i) (by omega)

theorem valL_lead (k : Nat) (S : List Int) : valL (List.replicate k 48 ++ S) 0 = valL S 0 := by
  rw [valL_append, valL_zeros]

/-- The two facts that the law wants of zzBuildForm's text. -/
theorem form_law (neg extra upper : Bool) (u : Int) (shift zeros : Nat) (hu0 : 0 ≤ u) (hu1 : u ≤ limOf neg) (hsh : shift ≤ 255) {v : Int} {ok : Bool}
    (F : List Int) (hF : F = signL neg ++ midL (decL u) shift zeros extra ++ List.replicate zeros 48 ++ extraL extra ++ expL upper ++ decL (shift : Int))
    (ho : IntOut (fun j => F.getD j 0) F.length v ok) : (extra = false → v = signed neg u ∧ ok = true) ∧ (extra = true → v = 0 ∧ ok = false) := by
  have hlim : limOf neg ≤ 9223372036854775808 := by unfold limOf; split <;> omega
  obtain ⟨W, dot, Fd, he, hc⟩ := build_form neg extra upper (decL u) shift zeros (decL (shift : Int))
  rw [he] at hF
  subst hF
  have hSd := digs_decL u hu0
  obtain ⟨hSp, hSz⟩ := decL_first u hu0 (by omega)
  have hSv := valL_decL u hu0 (by omega)
  have hEd := digs_decL (shift : Int) (by omega)
  obtain ⟨hEp, _⟩ := decL_first (shift : Int) (by omega) (by omega)
  have hEv := valL_decL (shift : Int) (by omega) (by omega)
  have hXd := digs_extra extra
  generalize decL u = S at *
  generalize decL (shift : Int) = Ed at *
  rcases hc with ⟨h0, rfl, rfl, hdot⟩ | ⟨h0, h1, rfl, rfl, rfl⟩ | ⟨h0, h1, rfl, rfl, rfl⟩
  · have L := lay_form neg W dot (List.replicate zeros 48 ++ extraL extra) upper Ed hSd hSp hSz (digs_append (digs_zeros _) hXd) (fun h => by
        rcases hdot.1 h with h | h
        · simp; omega
        · subst h; simp [extraL]) (fun h => by
        have : ¬ (0 < zeros ∨ extra = true) := fun hh => by rw [hdot.2 hh] at h; cases h
        have hz0 : zeros = 0 := by omega
        have hx : extra = false := by cases extra <;> simp_all
        subst hz0 hx; rfl) hEd hEp
    refine ⟨fun hx => ?_, fun hx => ?_⟩
    · subst hx
      obtain ⟨a, b⟩ := L.good (by rw [hEv]; omega) (A := W) (z := zeros) (by simp [extraL]) (by rw [hEv]; omega) (by rw [hSv]; exact hu1) ho
      rw [hSv] at a
      exact ⟨a, b⟩
    · subst hx
      refine L.bad (by rw [hEv]; omega) (W.length + zeros) (by rw [hEv]; omega) (by simp [extraL]) ?_ ho
      rw [getD_right (by omega), show W.length + zeros - W.length = zeros from by omega, getD_right (by simp)]
      simp [extraL]
  · have L := lay_form neg (S.take (S.length - shift)) true (S.drop (S.length - shift) ++ List.replicate zeros 48 ++ extraL extra) upper Ed (digs_take hSd _) (by simp; omega) (fun h => by
        rw [take_at (by omega)] at h
        have := hSz h
        omega) (digs_append (digs_append (digs_drop hSd _) (digs_zeros _)) hXd) (fun _ => by simp; omega) (fun h => by cases h) hEd hEp
    have eW : S.take (S.length - shift) ++ (S.drop (S.length - shift) ++ List.replicate zeros 48 ++ extraL extra) = S ++ (List.replicate zeros 48 ++ extraL extra) := by
      rw [← List.append_assoc, ← List.append_assoc, List.take_append_drop, List.append_assoc]
    have lW : (S.take (S.length - shift)).length = S.length - shift := by simp
    refine ⟨fun hx => ?_, fun hx => ?_⟩
    · subst hx
      obtain ⟨a, b⟩ := L.good (by rw [hEv, lW]; simp; omega) (A := S) (z := zeros) (by rw [eW]; simp [extraL]) (by rw [hEv, lW]; omega) (by rw [hSv]; exact hu1) ho
      rw [hSv] at a
      exact ⟨a, b⟩
    · subst hx
      refine L.bad (by rw [hEv, lW]; simp; omega) (S.length + zeros) (by rw [hEv, lW]; omega) (by rw [eW]; simp [extraL]) ?_ ho
      rw [eW, getD_right (by omega), show S.length + zeros - S.length = zeros from by omega, getD_right (by simp)]
      simp [extraL]
  · have L := lay_form neg [48] true (List.replicate (shift - S.length) 48 ++ S ++ List.replicate zeros 48 ++ extraL extra) upper Ed (digs_one (by omega)) (by simp) (fun _ => rfl) (digs_append (digs_append (digs_append (digs_zeros _) hSd) (digs_zeros _)) hXd) (fun _ => by simp; omega) (fun h => by cases h) hEd hEp
    have eW : [48] ++ (List.replicate (shift - S.length) 48 ++ S ++ List.replicate zeros 48 ++ extraL extra) = (List.replicate (shift - S.length + 1) 48 ++ S) ++ (List.replicate zeros 48 ++ extraL extra) := by
      rw [List.replicate_succ]; simp
    have lW : ([48] : List Int).length = 1 := rfl
    refine ⟨fun hx => ?_, fun hx => ?_⟩
    · subst hx
      obtain ⟨a, b⟩ := L.good (by rw [hEv, lW]; simp; omega) (A := List.replicate (shift - S.length + 1) 48 ++ S) (z := zeros) (by rw [eW]; simp [extraL]) (by rw [hEv, lW]; simp; omega) (by rw [valL_lead, hSv]; exact hu1) ho
      rw [valL_lead, hSv] at a
      exact ⟨a, b⟩
    · subst hx
      refine L.bad (by rw [hEv, lW]; simp; omega) (shift + 1 + zeros) (by rw [hEv, lW]; omega) (by rw [eW]; simp [extraL]; omega) ?_ ho
      have lA : (List.replicate (shift - S.length + 1) (48 : Int) ++ S).length = shift + 1 := by simp; omega
      rw [eW, getD_right (by omega), lA, show shift + 1 + zeros - (shift + 1) = zeros from by omega, getD_right (by simp)]
      simp [extraL]

/-- .. and of the plain text. -/
theorem plain_law (neg : Bool) (u : Int) (hu0 : 0 ≤ u) (hu1 : u ≤ limOf neg) {v : Int} {ok : Bool} (F : List Int) (hF : F = signL neg ++ decL u)
    (ho : IntOut (fun j => F.getD j 0) F.length v ok) : v = signed neg u ∧ ok = true := by
  have hlim : limOf neg ≤ 9223372036854775808 := by unfold limOf; split <;> omega
  subst hF
  have hSd := digs_decL u hu0
  obtain ⟨hSp, hSz⟩ := decL_first u hu0 (by omega)
  have hSv := valL_decL u hu0 (by omega)
  generalize decL u = S at *
  have L := lay_plain neg S hSd hSp hSz
  have e0 : valL [] 0 = 0 := rfl
  obtain ⟨a, b⟩ := L.good (by rw [e0]; simp; omega) (A := S) (z := 0) (by simp) (by rw [e0]; omega) (by rw [hSv]; exact hu1) ho
  rw [hSv] at a
  exact ⟨a, b⟩

end Go.Proofs.Qxb6629257a.W
