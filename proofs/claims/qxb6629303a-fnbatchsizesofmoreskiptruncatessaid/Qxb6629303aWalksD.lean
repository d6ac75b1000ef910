import Derived.Test.Qxb6629303aWalksC
namespace Go.Proofs.Qxb6629303a.W
open Go.RowKit
set_option linter.unusedVariables false
set_option maxRecDepth 100000

theorem below2 {w a b : World} (h : Below w.heap.size w a) (k : Below a.heap.size a b) : Below w.heap.size w b := h.trans (k.mono h.size)

/-- A list of ints that the call has made, in memory. -/
structure IRow (w : World) (ao : Option Addr) (L : List Int) : Prop where
  addr : 0 < L.length → ∃ g, ao = some ⟨g, 0, none⟩ ∧ g < w.heap.size ∧ ∀ i, i < L.length → w.cell? ⟨g, i, none⟩ = some (.int .i64 (L.getD i 0))

theorem IRow.later {w w' : World} {ao : Option Addr} {L : List Int} (h : IRow w ao L) (hb : Below w.heap.size w w') : IRow w' ao L :=
  ⟨fun h0 => by
    obtain ⟨g, e, hlt, hc⟩ := h.addr h0
    exact ⟨g, e, Nat.lt_of_lt_of_le hlt hb.size, fun i hi => cell_later hb (hc i hi)⟩⟩

theorem OfPost.row {L : List Int} {w : World} {e : Ending} {w' : World} (h : OfPost L w e w') : ∃ ao c, e = .returned (.slice ao L.length c) ∧ IRow w' ao L ∧ (L = [] → ao = none ∧ c = 0) ∧ Below w.heap.size w w' := by
  obtain ⟨ao, c, he, hown, hnil, hbel⟩ := h
  refine ⟨ao, c, he, ⟨fun h0 => ?_⟩, hnil, hbel⟩
  obtain ⟨g, cap, hv, _, hlt⟩ := hown.form h0
  cases hv
  refine ⟨g, rfl, hlt, fun i hi => ?_⟩
  rw [hown.cellAt i (by omega)]
  simp [List.getElem?_map, List.getD, List.getElem?_eq_getElem hi]

/-- zzBuild, at every slice. -/
theorem build_any (a : Option Addr) (n cap : Nat) (N : Nat → Int) (P : Nat → Bool) (w : World) (hm : n ≤ 65536) (hnil : a = none → n = 0 ∧ cap = 0) (R : BRow w a n N P) :
    Calls Try.prog 7 #[.slice a n cap] w fun e w' => ∃ a' c', e = .returned (.slice a' n c') ∧ n ≤ c' ∧ c' ≤ 65536 ∧ BRow w' a' n N P ∧ (0 < n → ∃ g, a' = some ⟨g, 0, none⟩) ∧ Below w.heap.size w w' := by
  cases a with
  | none =>
    obtain ⟨rfl, rfl⟩ := hnil rfl
    refine (build_nil w).mono ?_
    rintro e w' ⟨rfl, rfl⟩
    exact ⟨none, 0, rfl, Nat.le_refl _, by omega, R, fun h => absurd h (Nat.lt_irrefl _), Below.refl _ _⟩
  | some x =>
    refine (build_at x n cap N P w hm R).mono ?_
    rintro e w' ⟨rfl, hrow, hbel⟩
    exact ⟨_, n, rfl, Nat.le_refl _, hm, row_of hrow, fun _ => ⟨_, rfl⟩, hbel⟩

/-! ### The plain laws of the batches -/

theorem ofL_fuel (s : Nat → Int) (hs : ∀ k, 1 ≤ s k) : ∀ (f f' k : Nat) (left : Int), left ≤ f → left ≤ f' → ofL s f k left = ofL s f' k left
  | 0, f', k, left, h, h' => by rw [ofL_done s f' k left (by omega)]; rfl
  | f + 1, 0, k, left, h, h' => by rw [ofL_done s (f + 1) k left (by omega)]; rfl
  | f + 1, f' + 1, k, left, h, h' => by
    by_cases hp : 0 < left
    · have := hs k
      rw [ofL_step s f k left hp, ofL_step s f' k left hp, ofL_fuel s hs f f' (k + 1) _ (by omega) (by omega)]
    · rw [ofL_done s _ k left (by omega), ofL_done s _ k left (by omega)]

theorem ofL_shift (s s' : Nat → Int) (h : ∀ k, s' k = s (k + 1)) : ∀ (f k : Nat) (left : Int), ofL s' f k left = ofL s f (k + 1) left
  | 0, k, left => rfl
  | f + 1, k, left => by
    by_cases hp : 0 < left
    · rw [ofL_step s' f k left hp, ofL_step s f (k + 1) left hp, h k, ofL_shift s s' h f (k + 1)]
    · rw [ofL_done s' _ k left (by omega), ofL_done s _ (k + 1) left (by omega)]

theorem sAt_ge (n : Nat) (N : Nat → Int) (P : Nat → Bool) (total : Int) (k : Nat) : 1 ≤ sAt n N P total k := by unfold sAt szB; omega

/-- The first batch, and the rest: with two sizes or more from the second on; with one, the same again. -/
theorem unfold_two (n : Nat) (N : Nat → Int) (P : Nat → Bool) (total skip : Int) (hn : 2 ≤ n) (hp : 0 < total - skip) (hd : total - skip ≤ 65536) :
    ofL (sAt n N P total) 65536 0 (total - skip) = min (sAt n N P total 0) (total - skip) :: ofL (sAt (n - 1) (fun i => N (i + 1)) (fun i => P (i + 1)) total) 65536 0 (total - (skip + min (sAt n N P total 0) (total - skip))) := by
  have hs := sAt_ge n N P total
  have h0 := hs 0
  rw [ofL_step _ 65535 0 _ hp]
  congr 1
  rw [ofL_shift (sAt n N P total) (sAt (n - 1) (fun i => N (i + 1)) (fun i => P (i + 1)) total) (fun k => by
    unfold sAt
    show szB (N (min k (n - 1 - 1) + 1)) (P (min k (n - 1 - 1) + 1)) total = _
    rw [show min k (n - 1 - 1) + 1 = min (k + 1) (n - 1) from by omega])]
  rw [show total - (skip + min (sAt n N P total 0) (total - skip)) = total - skip - min (sAt n N P total 0) (total - skip) from by omega]
  exact ofL_fuel _ hs 65535 65536 1 _ (by omega) (by omega)

theorem unfold_one (N : Nat → Int) (P : Nat → Bool) (total skip : Int) (hp : 0 < total - skip) (hd : total - skip ≤ 65536) :
    ofL (sAt 1 N P total) 65536 0 (total - skip) = min (sAt 1 N P total 0) (total - skip) :: ofL (sAt 1 N P total) 65536 0 (total - (skip + min (sAt 1 N P total 0) (total - skip))) := by
  have hs := sAt_ge 1 N P total
  have h0 := hs 0
  rw [ofL_step _ 65535 0 _ hp]
  congr 1
  rw [show ofL (sAt 1 N P total) 65536 0 (total - (skip + min (sAt 1 N P total 0) (total - skip))) = ofL (sAt 1 N P total) 65536 1 (total - (skip + min (sAt 1 N P total 0) (total - skip))) from
    ofL_shift (sAt 1 N P total) (sAt 1 N P total) (fun k => by unfold sAt; rw [show min k (1 - 1) = min (k + 1) (1 - 1) from by omega]) 65536 0 _]
  rw [show total - (skip + min (sAt 1 N P total 0) (total - skip)) = total - skip - min (sAt 1 N P total 0) (total - skip) from by omega]
  exact ofL_fuel _ hs 65535 65536 1 _ (by omega) (by omega)

end Go.Proofs.Qxb6629303a.W
