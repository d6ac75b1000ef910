import Derived.Test.Qxb6629184aWalksC
namespace Go.Proofs.Qxb6629184a.W
open Go.RowKit

/-- f with e put in at place p. -/
def ins (f : Nat → Int) (p : Nat) (e : Int) (i : Nat) : Int := if i < p then f i else if i = p then e else f (i - 1)

theorem ins_lt {f : Nat → Int} {p i : Nat} {e : Int} (h : i < p) : ins f p e i = f i := by unfold ins; rw [if_pos h]
theorem ins_eq {f : Nat → Int} {p : Nat} {e : Int} : ins f p e p = e := by unfold ins; rw [if_neg (Nat.lt_irrefl _), if_pos rfl]
theorem ins_gt {f : Nat → Int} {p i : Nat} {e : Int} (h : p < i) : ins f p e i = f (i - 1) := by unfold ins; rw [if_neg (by omega), if_neg (by omega)]

theorem ins_asc {f : Nat → Int} {n p : Nat} {e : Int} (ha : Asc f n) (hp : p ≤ n) (h1 : ∀ t, t < p → f t < e) (h2 : ∀ t, p ≤ t → t < n → e < f t) : Asc (ins f p e) (n + 1) := by
  intro i j hij hj
  rcases Nat.lt_trichotomy i p with a | a | a
  · rw [ins_lt a]
    rcases Nat.lt_trichotomy j p with b | b | b
    · rw [ins_lt b]; exact ha i j hij (by omega)
    · subst b; rw [ins_eq]; exact h1 i a
    · rw [ins_gt b]
      have := h1 i a
      have := h2 (j - 1) (by omega) (by omega)
      omega
  · subst a
    rw [ins_eq, ins_gt hij]
    exact h2 (j - 1) (by omega) (by omega)
  · rw [ins_gt a, ins_gt (by omega)]
    exact ha (i - 1) (j - 1) (by omega) (by omega)

/-- What the second calendar's Next gives, as the law wants it. -/
structure Want (f : Nat → Int) (n k1 : Nat) (d e : Int) (fm : Nat → Int) (n2 k2 : Nat) : Prop where
  a1 : k1 < n → d < e → e < f k1 → k2 < n2 ∧ fm k2 = e
  a2 : k1 < n → ¬ (d < e ∧ e < f k1) → k2 < n2 ∧ fm k2 = f k1
  b1 : k1 = n → d < e → k2 < n2 ∧ fm k2 = e
  b2 : k1 = n → e ≤ d → k2 = n2

theorem want_ins {f : Nat → Int} {n p k1 : Nat} {d e : Int} (hk : PartsAt f n d k1) (hp : p ≤ n) (h1 : ∀ t, t < p → f t < e) (h2 : ∀ t, p ≤ t → t < n → e < f t) :
    ∃ k2, PartsAt (ins f p e) (n + 1) d k2 ∧ Want f n k1 d e (ins f p e) (n + 1) k2 := by
  obtain ⟨hle, hlo, hhi⟩ := hk
  by_cases hde : d < e
  · have hkp : k1 ≤ p := by
      apply Classical.byContradiction
      intro hc
      have := hlo p (by omega)
      have := h2 p (Nat.le_refl _) (by omega)
      omega
    refine ⟨k1, ⟨by omega, fun t ht => by rw [ins_lt (by omega)]; exact hlo t ht, fun t a b => ?_⟩, ⟨fun a b c => ⟨by omega, ?_⟩, fun a b => ⟨by omega, ?_⟩, fun a b => ⟨by omega, ?_⟩, fun a b => by omega⟩⟩
    · rcases Nat.lt_trichotomy t p with x | x | x
      · rw [ins_lt x]; exact hhi t a (by omega)
      · subst x; rw [ins_eq]; exact hde
      · rw [ins_gt x]; exact hhi (t - 1) (by omega) (by omega)
    · have : p = k1 := by
        apply Classical.byContradiction
        intro hne
        have := h1 k1 (by omega)
        omega
      subst this; exact ins_eq
    · have hlt : k1 < p := by
        apply Classical.byContradiction
        intro hne
        have := h2 k1 (by omega) a
        omega
      exact ins_lt hlt
    · have : p = k1 := by omega
      subst this; exact ins_eq
  · have hpk : p ≤ k1 := by
      apply Classical.byContradiction
      intro hc
      have := hhi k1 (Nat.le_refl _) (by omega)
      have := h1 k1 (by omega)
      omega
    refine ⟨k1 + 1, ⟨by omega, fun t ht => ?_, fun t a b => ?_⟩, ⟨fun a b c => absurd b hde, fun a b => ⟨by omega, ?_⟩, fun a b => absurd b hde, fun a b => by omega⟩⟩
    · rcases Nat.lt_trichotomy t p with x | x | x
      · rw [ins_lt x]; exact hlo t (by omega)
      · subst x; rw [ins_eq]; omega
      · rw [ins_gt x]; exact hlo (t - 1) (by omega)
    · rw [ins_gt (by omega)]; exact hhi (t - 1) (by omega) (by omega)
    · rw [ins_gt (by omega)]; rfl

theorem want_same {f : Nat → Int} {n p k1 : Nat} {d e : Int} (hk : PartsAt f n d k1) (hp : p < n) (he : f p = e) (ha : Asc f n) : Want f n k1 d e f n k1 := by
  obtain ⟨hle, hlo, hhi⟩ := hk
  refine ⟨fun a b c => ?_, fun a _ => ⟨a, rfl⟩, fun a b => ?_, fun a _ => a⟩
  · exfalso
    by_cases h : p < k1
    · have := hlo p h; omega
    · by_cases h' : p = k1
      · subst h'; omega
      · have := ha k1 p (by omega) hp; omega
  · have := hlo p (by omega); omega

theorem parts_zero (f : Nat → Int) (d : Int) : PartsAt f 0 d 0 := ⟨Nat.le_refl _, fun _ h => absurd h (Nat.not_lt_zero _), fun _ _ h => absurd h (Nat.not_lt_zero _)⟩

/-- Next, both ways under one statement. -/
theorem next_is (C b off n c k : Nat) (f : Nat → Int) (d : Int) (v : Int) (o : Bool) (w : World) (hn : n ≤ 100000)
    (hcal : w.cell? ⟨C, 0, none⟩ = some (.slice (some ⟨b, off, none⟩) n c))
    (hc : ∀ j, j < n → w.cell? ⟨b, off + j, none⟩ = some (.int .i32 (f j))) (ha : Asc f n) (hk : PartsAt f n d k)
    (hv : (k < n ∧ v = f k ∧ o = true) ∨ (k = n ∧ v = 0 ∧ o = false)) :
    Calls Try.prog 9 #[.pointer (some ⟨C, 0, none⟩), .int .i32 d] w fun e w' => e = .returned (.tuple #[.int .i32 v, .bool o]) ∧ ∃ q, w' = w.drewN q := by
  rcases hv with ⟨h, rfl, rfl⟩ | ⟨rfl, rfl, rfl⟩
  · exact next_some C b off n c k f d w hn hcal hc ha hk h
  · exact next_last C b off k c f d w hn hcal hc ha hk

theorem info21 : (Try.prog.info? 21).map (fun i => (i.zero, i.size, i.bytes)) = some (some (.int .i32 0), 1, 4) := by kernel_rfl

/-- zzToDates at a slice without elements. -/
theorem toDates_empty (a : Option Addr) (cap : Nat) (w : World) (h : a = none → cap = 0) :
    Calls Try.prog 8 #[.slice a 0 cap] w fun e w' => ∃ a', e = .returned (.slice a' 0 0) ∧ Below w.heap.size w w' ∧ w.heap.size ≤ w'.heap.size := by
  cases a with
  | none =>
    rw [h rfl]
    refine (toDates_nil w).mono ?_
    rintro e w' ⟨rfl, rfl⟩
    exact ⟨_, rfl, Below.refl _ _, Nat.le_refl _⟩
  | some x =>
    refine (toDates_zero x cap (fun _ => 0) w).mono ?_
    rintro e w' ⟨rfl, _, hb, hs⟩
    exact ⟨_, rfl, hb, by omega⟩

end Go.Proofs.Qxb6629184a.W
