import Derived.Test.Qxb6629367aPlainA
namespace Go.Proofs.Qxb6629367a.W
open Go.RowKit
set_option linter.unusedVariables false

theorem shift_shift (d e : Int) (p : Int × Int) : shift d (shift (wrap64 (0 + e)) p) = shift e (shift d p) := by
  unfold shift
  simp only [Prod.mk.injEq]
  constructor <;> (unfold wrap64; omega)

/-- What one entry adds to the spans, at off. -/
def one (r : Bool) (off le : Int) : List (Int × Int) := bif r then [(off, wrap64 (off + le))] else []

theorem pads_one (le : Int) (pe : Bool) (off : Int) : pads (fun _ => le) (fun _ => pe) 1 0 off = one (pe && decide (0 < le)) off le := by
  by_cases hp : pe = true ∧ 0 < le
  · rw [pads_yes _ _ _ _ _ hp.1 hp.2, hp.1, decide_eq_true hp.2]; rfl
  · rw [pads_no _ _ _ _ _ hp]
    have : (pe && decide (0 < le)) = false := by
      cases pe with
      | false => rfl
      | true => simp at hp; simp [hp]
    rw [this]; rfl

theorem one_shift (r : Bool) (le d : Int) (h : wrap64 d = d) : (one r 0 le).map (shift d) = one r d le := by
  cases r with
  | false => rfl
  | true =>
    show [shift d (0, wrap64 (0 + le))] = [(d, wrap64 (d + le))]
    unfold shift
    congr 2
    · show wrap64 (0 + d) = d; rw [Int.zero_add, h]
    · show wrap64 (wrap64 (0 + le) + d) = wrap64 (d + le); unfold wrap64; omega

/-- One entry more between a and b. -/
theorem insert_law (A1 A2 X Y : Nat → Int) (P1 P2 PX PY : Nat → Bool) (na nb : Nat) (le : Int) (pe : Bool) (x1 : ∀ i, i < na → X i = A1 i ∧ PX i = P1 i) (x2 : ∀ i, i < nb → X (na + i) = A2 i ∧ PX (na + i) = P2 i)
    (y1 : ∀ i, i < na → Y i = A1 i ∧ PY i = P1 i) (ye : Y na = le ∧ PY na = pe) (y2 : ∀ i, i < nb → Y (na + 1 + i) = A2 i ∧ PY (na + 1 + i) = P2 i) :
    ∃ N, pads X PX (na + nb) 0 0 = pads A1 P1 na 0 0 ++ N ∧ pads Y PY (na + 1 + nb) 0 0 = pads A1 P1 na 0 0 ++ (one (pe && decide (0 < le)) (wsum A1 na) le ++ N.map (shift le)) ∧ wsum Y (na + 1 + nb) = wrap64 (wsum X (na + nb) + le) := by
  refine ⟨_, pads_join X A1 A2 PX P1 P2 na nb x1 x2, ?_, ?_⟩
  · rw [Nat.add_assoc, pads_join Y A1 (fun i => Y (na + i)) PY P1 (fun i => PY (na + i)) na (1 + nb) y1 (fun i _ => ⟨rfl, rfl⟩),
      pads_join (fun i => Y (na + i)) (fun _ => le) A2 (fun i => PY (na + i)) (fun _ => pe) P2 1 nb (fun i hi => by
        obtain rfl : i = 0 := by omega
        exact ye) (fun i hi => by
        show Y (na + (1 + i)) = _ ∧ PY (na + (1 + i)) = _
        rw [← Nat.add_assoc]; exact y2 i hi), List.map_append, pads_one, one_shift _ _ _ (wsum_in A1 na)]
    congr 2
    rw [List.map_map, List.map_map]
    refine List.map_congr_left (fun p _ => ?_)
    exact shift_shift (wsum A1 na) le p
  · rw [Nat.add_assoc, wsum_join Y A1 (fun i => Y (na + i)) na (1 + nb) (fun i hi => (y1 i hi).1) (fun i _ => rfl),
      wsum_join (fun i => Y (na + i)) (fun _ => le) A2 1 nb (fun i hi => by
        obtain rfl : i = 0 := by omega
        exact ye.1) (fun i hi => by
        show Y (na + (1 + i)) = _
        rw [← Nat.add_assoc]; exact (y2 i hi).1), wsum_join X A1 A2 na nb (fun i hi => (x1 i hi).1) (fun i hi => (x2 i hi).1)]
    show wrap64 (wsum A1 na + wrap64 (wrap64 (0 + le) + wsum A2 nb)) = wrap64 (wrap64 (wsum A1 na + wsum A2 nb) + le)
    generalize wsum A1 na = p
    generalize wsum A2 nb = q
    unfold wrap64; omega

theorem getD_l {α : Type} (L R : List α) (k : Nat) (d : α) (h : k < L.length) : (L ++ R).getD k d = L.getD k d := by
  simp only [List.getD]; rw [List.getElem?_append_left h]

theorem getD_r {α : Type} (L R : List α) (j : Nat) (d : α) : (L ++ R).getD (L.length + j) d = R.getD j d := by
  simp only [List.getD]; rw [List.getElem?_append_right (by omega), show L.length + j - L.length = j from by omega]

theorem getD_map {α β : Type} (f : α → β) (L : List α) (j : Nat) (d : α) (e : β) (h : j < L.length) : (L.map f).getD j e = f (L.getD j d) := by
  simp only [List.getD]; rw [List.getElem?_map, List.getElem?_eq_getElem h]; rfl

theorem tail0 (L N : List (Int × Int)) (le off : Int) (j : Nat) (h : j < N.length) : (L ++ (one false off le ++ N.map (shift le))).getD (L.length + j) (0, 0) = shift le ((L ++ N).getD (L.length + j) (0, 0)) := by
  rw [getD_r, getD_r]; exact getD_map _ _ _ _ _ h

theorem tail1 (L N : List (Int × Int)) (le off : Int) (j : Nat) (h : j < N.length) : (L ++ (one true off le ++ N.map (shift le))).getD (L.length + j + 1) (0, 0) = shift le ((L ++ N).getD (L.length + j) (0, 0)) := by
  rw [Nat.add_assoc, getD_r, getD_r]; exact getD_map _ _ _ _ _ h

theorem mid1 (L N : List (Int × Int)) (le off : Int) : (L ++ (one true off le ++ N)).getD L.length (0, 0) = (off, wrap64 (off + le)) := by
  rw [show L.length = L.length + 0 from rfl, getD_r]; rfl

end Go.Proofs.Qxb6629367a.W
