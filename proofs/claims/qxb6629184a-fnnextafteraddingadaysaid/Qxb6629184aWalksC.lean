import Derived.Test.Qxb6629184aWalksB
namespace Go.Proofs.Qxb6629184a.W
open Go.RowKit

/-- k parts the elements that are at most d from those that are later. -/
structure PartsAt (f : Nat → Int) (n : Nat) (d : Int) (k : Nat) : Prop where
  le : k ≤ n
  lo : ∀ t, t < k → f t ≤ d
  hi : ∀ t, k ≤ t → t < n → d < f t

def Asc (f : Nat → Int) (n : Nat) : Prop := ∀ i j, i < j → j < n → f i < f j

theorem asc_of (f : Nat → Int) (n : Nat) (h : ∀ i, i + 1 < n → f i < f (i + 1)) : Asc f n := by
  intro i j hij hj
  induction j with
  | zero => omega
  | succ j ih =>
    by_cases e : i = j
    · subst e; exact h i hj
    · have := ih (by omega) (by omega)
      have := h j hj
      omega

theorem parts_ex (f : Nat → Int) (d : Int) : ∀ n, Asc f n → ∃ k, PartsAt f n d k := by
  intro n
  induction n with
  | zero => intro _; exact ⟨0, Nat.le_refl _, fun t h => absurd h (Nat.not_lt_zero _), fun t _ h => absurd h (Nat.not_lt_zero _)⟩
  | succ n ih =>
    intro ha
    obtain ⟨k, h0, h1, h2⟩ := ih (fun i j hi hj => ha i j hi (by omega))
    by_cases hk : k = n
    · by_cases hd : d < f n
      · exact ⟨n, by omega, fun t ht => h1 t (by omega), fun t h3 h4 => by
          have : t = n := by omega
          rw [this]; exact hd⟩
      · exact ⟨n + 1, by omega, fun t ht => by
          by_cases e : t = n
          · subst e; omega
          · exact h1 t (by omega), fun t h3 h4 => by omega⟩
    · refine ⟨k, by omega, h1, fun t h3 h4 => ?_⟩
      by_cases e : t = n
      · subst e
        have := h2 k (Nat.le_refl _) (by omega)
        have := ha k t (by omega) (by omega)
        omega
      · exact h2 t h3 (by omega)

theorem parts_uniq {f : Nat → Int} {n k k' : Nat} {d : Int} (h : PartsAt f n d k) (h' : PartsAt f n d k') : k = k' := by
  rcases Nat.lt_trichotomy k k' with hlt | he | hlt
  · have := h'.lo k hlt
    have := h.hi k (Nat.le_refl _) (by have := h'.le; omega)
    omega
  · exact he
  · have := h.lo k' hlt
    have := h'.hi k' (Nat.le_refl _) (by have := h.le; omega)
    omega

/-- What the search gives: the place p, and whether it was found; and what k is then. -/
theorem search_parts {f : Nat → Int} {n k : Nat} {d : Int} (ha : Asc f n) (h : PartsAt f n d k) :
    ∃ p, p ≤ n ∧ (∀ t, t < p → f t < d) ∧ (∀ t, p ≤ t → t < n → d ≤ f t) ∧ ((p = k ∧ ¬ (p < n ∧ f p = d)) ∨ (p + 1 = k ∧ p < n ∧ f p = d)) := by
  obtain ⟨h0, h1, h2⟩ := h
  by_cases hk : 0 < k ∧ f (k - 1) = d
  · refine ⟨k - 1, by omega, fun t ht => ?_, fun t h3 h4 => ?_, .inr ⟨by omega, by omega, hk.2⟩⟩
    · have := ha t (k - 1) ht (by omega); omega
    · by_cases e : t = k - 1
      · subst e; omega
      · have := h2 t (by omega) h4; omega
  · refine ⟨k, h0, fun t ht => ?_, fun t h3 h4 => ?_, .inl ⟨rfl, fun hh => ?_⟩⟩
    · have a1 := h1 t ht
      by_cases e : t = k - 1
      · subst e
        have : f (k - 1) ≠ d := fun hh => hk ⟨by omega, hh⟩
        omega
      · have := ha t (k - 1) (by omega) (by omega)
        have := h1 (k - 1) (by omega)
        omega
    · have := h2 t h3 h4; omega
    · have := h2 k (Nat.le_refl _) hh.1; omega

theorem newCal (v : Value) (w : World) (hv : ∃ a n c, v = .slice a n c) :
    Calls Try.prog 7 #[v] w fun e w' => e = .returned (.pointer (some ⟨w.heap.size, 0, none⟩)) ∧ w.alloc (.cells #[v] 34) = w' := by
  obtain ⟨a, n, c, rfl⟩ := hv
  go_enter Try.func7, Try.ntmps7
  go_wp2
  go_ret
  exact ⟨rfl, rfl⟩

set_option maxHeartbeats 1000000 in
theorem next_empty (C : Nat) (a : Option Addr) (c : Nat) (d : Int) (w : World) (hcal : w.cell? ⟨C, 0, none⟩ = some (.slice a 0 c)) :
    Calls Try.prog 9 #[.pointer (some ⟨C, 0, none⟩), .int .i32 d] w fun e w' => e = .returned (.tuple #[.int .i32 0, .bool false]) ∧ ∃ q, w' = w.drewN q := by
  go_enter Try.func9, Try.ntmps9
  go_wp2_with (go_at_call 11; refine (search_none _ _ _ _).mono ?_; rintro e w' ⟨rfl, q, rfl⟩)
  go_ret2
  exact ⟨rfl, _, rfl⟩

set_option maxHeartbeats 1000000 in
theorem next_some (C b off n c k : Nat) (f : Nat → Int) (d : Int) (w : World) (hn : n ≤ 100000)
    (hcal : w.cell? ⟨C, 0, none⟩ = some (.slice (some ⟨b, off, none⟩) n c))
    (hc : ∀ j, j < n → w.cell? ⟨b, off + j, none⟩ = some (.int .i32 (f j))) (ha : Asc f n) (hk : PartsAt f n d k) (hlt : k < n) :
    Calls Try.prog 9 #[.pointer (some ⟨C, 0, none⟩), .int .i32 d] w fun e w' => e = .returned (.tuple #[.int .i32 (f k), .bool true]) ∧ ∃ q, w' = w.drewN q := by
  obtain ⟨p, hp, hp1, hp2, hpk⟩ := search_parts ha hk
  have hcon := search_at b off n c p f d w hn hp hc hp1 hp2
  have hck : w.cell? ⟨b, off + k, none⟩ = some (.int .i32 (f k)) := hc k hlt
  clear hc ha hk hp1 hp2
  rcases hpk with ⟨rfl, hno⟩ | ⟨rfl, hpn, hfd⟩
  · rw [decide_eq_false hno] at hcon
    have H : Hid _ := hcon
    clear hcon hno
    go_enter Try.func9, Try.ntmps9
    go_wp2_with (go_at_call 11; refine Calls.mono H.out ?_; rintro e w' ⟨rfl, q, rfl⟩)
    go_ret2
    exact ⟨rfl, _, rfl⟩
  · rw [decide_eq_true (show p < n ∧ f p = d from ⟨hpn, hfd⟩)] at hcon
    have H : Hid _ := hcon
    clear hcon hfd
    go_enter Try.func9, Try.ntmps9
    go_wp2_with (go_at_call 11; refine Calls.mono H.out ?_; rintro e w' ⟨rfl, q, rfl⟩)
    go_ret2
    exact ⟨rfl, _, rfl⟩

set_option maxHeartbeats 1000000 in
theorem next_last (C b off n c : Nat) (f : Nat → Int) (d : Int) (w : World) (hn : n ≤ 100000)
    (hcal : w.cell? ⟨C, 0, none⟩ = some (.slice (some ⟨b, off, none⟩) n c))
    (hc : ∀ j, j < n → w.cell? ⟨b, off + j, none⟩ = some (.int .i32 (f j))) (ha : Asc f n) (hk : PartsAt f n d n) :
    Calls Try.prog 9 #[.pointer (some ⟨C, 0, none⟩), .int .i32 d] w fun e w' => e = .returned (.tuple #[.int .i32 0, .bool false]) ∧ ∃ q, w' = w.drewN q := by
  obtain ⟨p, hp, hp1, hp2, hpk⟩ := search_parts ha hk
  have hcon := search_at b off n c p f d w hn hp hc hp1 hp2
  clear hc ha hk hp1 hp2
  rcases hpk with ⟨rfl, hno⟩ | ⟨rfl, hpn, hfd⟩
  · rw [decide_eq_false hno] at hcon
    have H : Hid _ := hcon
    clear hcon hno
    go_enter Try.func9, Try.ntmps9
    go_wp2_with (go_at_call 11; refine Calls.mono H.out ?_; rintro e w' ⟨rfl, q, rfl⟩)
    go_ret2
    exact ⟨rfl, _, rfl⟩
  · rw [decide_eq_true (show p < p + 1 ∧ f p = d from ⟨hpn, hfd⟩)] at hcon
    have H : Hid _ := hcon
    clear hcon hfd
    go_enter Try.func9, Try.ntmps9
    go_wp2_with (go_at_call 11; refine Calls.mono H.out ?_; rintro e w' ⟨rfl, q, rfl⟩)
    go_ret2
    exact ⟨rfl, _, rfl⟩

end Go.Proofs.Qxb6629184a.W
