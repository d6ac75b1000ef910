import Derived.Test.Qxb6629184aWalksD
namespace Go.Proofs.Qxb6629184a.W
open Go.RowKit
set_option linter.unusedVariables false
set_option maxRecDepth 100000

set_option maxHeartbeats 400000 in
theorem lawB_big (a : Option Addr) (len cap : Nat) (d e : Int) (w : World) (h : 65536 < len) :
    Calls Try.prog 4 #[.slice a len cap, .int .i32 e, .int .i32 d] w fun e w' => e = .returned (.bool true) ∧ Below w.heap.size w w' := by
  by_cases h2 : len ≤ 1048576
  · go_enter Try.func4, Try.ntmps4
    go_wp2_with (go_at_call 10; refine (bytes2_le _ _ _ _ _ _ h2).mono ?_; rintro e w' ⟨rfl, rfl⟩)
    go_ret
    exact ⟨rfl, Below.refl _ _⟩
  · go_enter Try.func4, Try.ntmps4
    go_wp2_with (go_at_call 10; refine (bytes2_gt _ _ _ _ _ _ (by omega)).mono ?_; rintro e w' ⟨rfl, rfl⟩)
    go_ret
    exact ⟨rfl, Below.refl _ _⟩

/-- A row of int32: no element, or its cells told by f. -/
def Row (w : World) (a : Option Addr) (n cap : Nat) (f : Nat → Int) : Prop :=
  (n = 0 ∧ (a = none → cap = 0)) ∨ (0 < n ∧ ∃ b off, a = some ⟨b, off, none⟩ ∧ b < w.heap.size ∧ ∀ j, j < n → w.cell? ⟨b, off + j, none⟩ = some (.int .i32 (f j)))

theorem Row.later {w w' : World} {a : Option Addr} {n cap : Nat} {f : Nat → Int} (h : Row w a n cap f) (hb : Below w.heap.size w w') : Row w' a n cap f := by
  rcases h with h | ⟨hn, b, off, ha, hlt, hc⟩
  · exact .inl h
  · exact .inr ⟨hn, b, off, ha, Nat.lt_of_lt_of_le hlt hb.size, fun j hj => (hb.cell hlt).trans (hc j hj)⟩

theorem toDates_gen (a : Option Addr) (n cap : Nat) (f : Nat → Int) (w : World) (h : Row w a n cap f) (hn : n ≤ 100000) :
    Calls Try.prog 8 #[.slice a n cap] w fun e w' => ∃ a', e = .returned (.slice a' n n) ∧ Row w' a' n n f ∧ Below w.heap.size w w' := by
  rcases h with ⟨rfl, h⟩ | ⟨h0, b, off, rfl, hlt, hc⟩
  · refine (toDates_empty a cap w h).mono ?_
    rintro e w' ⟨a', rfl, hb, hs⟩
    exact ⟨a', rfl, .inl ⟨rfl, fun _ => rfl⟩, hb⟩
  · refine (toDates_pos b off n cap f w h0 hn hlt hc).mono ?_
    rintro e w' ⟨rfl, hr, hb, hs⟩
    exact ⟨_, rfl, .inr ⟨h0, _, _, rfl, by omega, fun j hj => by rw [Nat.zero_add]; exact hr.cell hj⟩, hb⟩

theorem next_gen (C n k : Nat) (a : Option Addr) (f : Nat → Int) (d : Int) (v : Int) (o : Bool) (w : World) (hn : n ≤ 100000)
    (hcal : w.cell? ⟨C, 0, none⟩ = some (.slice a n n)) (h : Row w a n n f) (ha : Asc f n) (hk : PartsAt f n d k)
    (hv : (k < n ∧ v = f k ∧ o = true) ∨ (k = n ∧ v = 0 ∧ o = false)) :
    Calls Try.prog 9 #[.pointer (some ⟨C, 0, none⟩), .int .i32 d] w fun e w' => e = .returned (.tuple #[.int .i32 v, .bool o]) ∧ ∃ q, w' = w.drewN q := by
  rcases h with ⟨rfl, h⟩ | ⟨h0, b, off, rfl, hlt, hc⟩
  · rcases hv with ⟨h, rfl, rfl⟩ | ⟨_, rfl, rfl⟩
    · exact absurd h (Nat.not_lt_zero _)
    · exact next_empty C a 0 d w hcal
  · exact next_is C b off n n k f d v o w hn hcal hc ha hk hv

/-- The world behind the two calendars. -/
structure Two (w W : World) (C1 C2 : Nat) (a1 a2 : Option Addr) (n n2 : Nat) (f fm : Nat → Int) : Prop where
  cal1 : W.cell? ⟨C1, 0, none⟩ = some (.slice a1 n n)
  cal2 : W.cell? ⟨C2, 0, none⟩ = some (.slice a2 n2 n2)
  row1 : Row W a1 n n f
  row2 : Row W a2 n2 n2 fm
  bel : Below w.heap.size w W

theorem two_of {w w1 w3 : World} {a1 a2 : Option Addr} {n n2 : Nat} {f fm : Nat → Int} (h1 : Row w1 a1 n n f) (hb1 : Below w.heap.size w w1)
    (h3 : Row w3 a2 n2 n2 fm) (hb3 : Below (w1.alloc (.cells #[.slice a1 n n] 34)).heap.size (w1.alloc (.cells #[.slice a1 n n] 34)) w3) :
    Two w (w3.alloc (.cells #[.slice a2 n2 n2] 34)) w1.heap.size w3.heap.size a1 a2 n n2 f fm := by
  have hA : Below w1.heap.size w1 (w1.alloc (.cells #[.slice a1 n n] 34)) := (Below.refl _ _).alloc (Nat.le_refl _) _
  have hC : Below w3.heap.size w3 (w3.alloc (.cells #[.slice a2 n2 n2] 34)) := (Below.refl _ _).alloc (Nat.le_refl _) _
  have hs := hb3.size
  have hs1 := hb1.size
  simp only [World.size_alloc] at hs
  refine ⟨?_, by simp, ((h1.later hA).later hb3).later hC, h3.later hC, ?_⟩
  · rw [hC.cell (by show w1.heap.size < w3.heap.size; omega), hb3.cell (by simp)]
    simp
  · exact (hb1.trans ((hA.mono hs1).trans (hb3.mono (by simp; omega)))).trans (hC.mono (by omega))

/-- The law's answer, case by case. -/
theorem asc_last {f : Nat → Int} {n k : Nat} {d : Int} (ha : Asc f n) (h : PartsAt f n d k) (hk : k < n) : d < f (n - 1) := h.hi (n - 1) (by omega) (by omega)
theorem last_le {f : Nat → Int} {n : Nat} {d : Int} (h : PartsAt f n d n) (hk : 0 < n) : f (n - 1) ≤ d := h.lo (n - 1) (by omega)

/-- The five ways of the law's end. -/
theorem five {f fm : Nat → Int} {n n2 k1 k2 : Nat} {d e : Int} (h1 : PartsAt f n d k1) (h2 : PartsAt fm n2 d k2) (hw : Want f n k1 d e fm n2 k2) :
    ∃ v1 o1 v2 o2, ((k1 < n ∧ v1 = f k1 ∧ o1 = true) ∨ (k1 = n ∧ v1 = 0 ∧ o1 = false)) ∧ ((k2 < n2 ∧ v2 = fm k2 ∧ o2 = true) ∨ (k2 = n2 ∧ v2 = 0 ∧ o2 = false)) ∧
      ((o1 = true ∧ o2 = true ∧ e = v2 ∧ 0 < n ∧ d < f (n - 1) ∧ d < v1 ∧ d < e ∧ e < v1) ∨
       (o1 = true ∧ o2 = true ∧ v1 = v2 ∧ 0 < n ∧ d < f (n - 1) ∧ d < v1 ∧ e ≤ d) ∨
       (o1 = true ∧ o2 = true ∧ v1 = v2 ∧ 0 < n ∧ d < f (n - 1) ∧ d < v1 ∧ d < e ∧ v1 ≤ e) ∨
       (o1 = false ∧ o2 = true ∧ v1 = 0 ∧ e = v2 ∧ (0 < n → f (n - 1) ≤ d) ∧ d < e) ∨
       (o1 = false ∧ o2 = false ∧ v1 = 0 ∧ v2 = 0 ∧ (0 < n → f (n - 1) ≤ d) ∧ e ≤ d)) := by
  by_cases hk : k1 < n
  · have hv := h1.hi k1 (Nat.le_refl _) hk
    have hl := h1.hi (n - 1) (by omega) (by omega)
    by_cases hde : d < e
    · by_cases hev : e < f k1
      · obtain ⟨a, b⟩ := hw.a1 hk hde hev
        exact ⟨_, true, e, true, .inl ⟨hk, rfl, rfl⟩, .inl ⟨a, b.symm, rfl⟩, .inl ⟨rfl, rfl, rfl, by omega, hl, hv, hde, hev⟩⟩
      · obtain ⟨a, b⟩ := hw.a2 hk (fun h => hev h.2)
        exact ⟨_, true, _, true, .inl ⟨hk, rfl, rfl⟩, .inl ⟨a, rfl, rfl⟩, .inr (.inr (.inl ⟨rfl, rfl, b.symm, by omega, hl, hv, hde, by omega⟩))⟩
    · obtain ⟨a, b⟩ := hw.a2 hk (fun h => hde h.1)
      exact ⟨_, true, _, true, .inl ⟨hk, rfl, rfl⟩, .inl ⟨a, rfl, rfl⟩, .inr (.inl ⟨rfl, rfl, b.symm, by omega, hl, hv, by omega⟩)⟩
  · have hk' : k1 = n := by have := h1.le; omega
    by_cases hde : d < e
    · obtain ⟨a, b⟩ := hw.b1 hk' hde
      exact ⟨0, false, e, true, .inr ⟨hk', rfl, rfl⟩, .inl ⟨a, b.symm, rfl⟩, .inr (.inr (.inr (.inl ⟨rfl, rfl, rfl, rfl, fun h => h1.lo (n - 1) (by omega), hde⟩)))⟩
    · have a := hw.b2 hk' (by omega)
      exact ⟨0, false, 0, false, .inr ⟨hk', rfl, rfl⟩, .inr ⟨a, rfl, rfl⟩, .inr (.inr (.inr (.inr ⟨rfl, rfl, rfl, rfl, fun h => h1.lo (n - 1) (by omega), by omega⟩)))⟩

end Go.Proofs.Qxb6629184a.W
