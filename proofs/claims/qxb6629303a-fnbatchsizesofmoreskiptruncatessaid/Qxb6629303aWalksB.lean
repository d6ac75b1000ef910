import Derived.Test.Qxb6629303aWalksA
namespace Go.Proofs.Qxb6629303a.W
open Go.RowKit
set_option linter.unusedVariables false
set_option maxRecDepth 100000

theorem info30 : (Try.prog.info? 30).map (fun i => (i.zero, i.size, i.bytes)) = some (some (.agg #[.int .i64 0, .bool false]), 2, 16) := by kernel_rfl

theorem mkB (n : Nat) (hm : n ≤ 100000) (w : World) : (Instr.makeSlice 25 (.int .i64 (n : Int)) (.int .i64 (n : Int))).run Try.prog w = .ok (.slice (some ⟨w.heap.size, 0, none⟩) n n) (w.alloc (.cells (madeCells #[.int .i64 0, .bool false] (n * 2)) 30)) := by
  obtain ⟨i, hi, hz0, hz1, hz2⟩ := info_parts info30
  have hr := run_make (P := Try.prog) w 25 30 i _ Try.underlying25 hi hz0 .i64 .i64 (n : Int) (n : Int) (by omega) (Int.le_refl _) (by rw [hz2]; omega) (by omega)
  simp only [Int.toNat_natCast, hz1] at hr
  exact hr

theorem eqnil (w : World) (a : Option Addr) (n c : Nat) : (binOp .eql 22 (.slice a n c) (.slice none 0 0)).run Try.prog w = .ok (.bool a.isNone) w :=
  Lib.run_eql_slice_nil w 22 33 a n c 0 0 Try.underlying22

/-- The cells of a row of batches. -/
def bcell (N : Nat → Int) (P : Nat → Bool) (j : Nat) : Value := if j % 2 = 0 then .int .i64 (N (j / 2)) else .bool (P (j / 2))

theorem bcell_even (N : Nat → Int) (P : Nat → Bool) (k : Nat) : bcell N P (k * 2) = .int .i64 (N k) := by
  unfold bcell; rw [if_pos (by omega), show k * 2 / 2 = k from by omega]
theorem bcell_odd (N : Nat → Int) (P : Nat → Bool) (k : Nat) : bcell N P (k * 2 + 1) = .bool (P k) := by
  unfold bcell; rw [if_neg (by omega), show (k * 2 + 1) / 2 = k from by omega]

set_option maxHeartbeats 1000000 in
theorem build_nil (w : World) :
    Calls Try.prog 7 #[.slice none 0 0] w fun e w' => e = .returned (.slice none 0 0) ∧ w = w' := by
  have hq := eqnil
  go_enter Try.func7, Try.ntmps7
  go_wp2
  go_ret
  exact ⟨rfl, rfl⟩

set_option maxHeartbeats 1000000 in
theorem build_at (x : Addr) (n cap : Nat) (N : Nat → Int) (P : Nat → Bool) (w : World) (hm : n ≤ 65536) (R : BRow w (some x) n N P) :
    Calls Try.prog 7 #[.slice (some x) n cap] w fun e w' => e = .returned (.slice (some ⟨w.heap.size, 0, none⟩) n n) ∧ w'.rowIs w.heap.size 30 (n * 2) (bcell N P) ∧ Below w.heap.size w w' := by
  have RR : Aside (BRow w (some x) n N P) := R
  clear R
  have hq := eqnil
  have hmk := mkB n (by omega)
  have R0 : Aside (∃ f0, (w.alloc (.cells (madeCells #[.int .i64 0, .bool false] (n * 2)) 30)).rowIs w.heap.size 30 (n * 2) f0) := by
    refine ⟨fun i => (madeCells #[.int .i64 0, .bool false] (n * 2))[i]?.getD (.bool false), ?_⟩
    have h := World.rowIs_alloc w (madeCells #[.int .i64 0, .bool false] (n * 2)) 30 (fun i => (madeCells #[.int .i64 0, .bool false] (n * 2))[i]?.getD (.bool false)) (fun i hi => by rw [Array.getElem?_eq_getElem hi]; rfl)
    rw [size_madeCells] at h
    exact h
  have B0 : Aside (Below w.heap.size w (w.alloc (.cells (madeCells #[.int .i64 0, .bool false] (n * 2)) 30))) := (Below.refl _ _).alloc (Nat.le_refl _) _
  go_enter Try.func7, Try.ntmps7
  go_wp2
  clear hmk hq
  generalize w.alloc (.cells (madeCells #[.int .i64 0, .bool false] (n * 2)) 30) = W at *
  go_loopg [4] n (fun g s wr => ∃ k : Nat, s = .int .i64 k ∧ k ≤ n ∧ n - k ≤ g ∧ (∃ f0 : Nat → Value, wr.rowIs w.heap.size 30 (n * 2) (fun j => if j < k * 2 then bcell N P j else f0 j)) ∧ Below w.heap.size w wr)
  case atStart =>
    obtain ⟨f0, h0⟩ := R0.out
    exact ⟨0, rfl, Nat.zero_le _, by omega, ⟨f0, h0.congr (fun i hi => by simp)⟩, B0.out⟩
  case round =>
    obtain ⟨k, rfl, hk, hg, ⟨f0, hrow⟩, hbel⟩ := hrel
    clear R0 B0
    by_cases hlt : k < n
    · obtain ⟨b, off, e, hbl, h1, h2⟩ := RR.out.addr (by omega)
      cases e
      have c1 := (hbel.cell (p := ⟨b, off + k * 2, none⟩) hbl).trans (h1 k hlt)
      have c2 := (hbel.cell (p := ⟨b, off + k * 2 + 1, none⟩) hbl).trans (h2 k hlt)
      obtain ⟨v0, hv0⟩ : ∃ v, wr.cell? ⟨w.heap.size, k * 2, none⟩ = some v := ⟨_, hrow.cell (by omega)⟩
      obtain ⟨v1, hv1⟩ : ∃ v, wr.cell? ⟨w.heap.size, k * 2 + 1, none⟩ = some v := ⟨_, hrow.cell (by omega)⟩
      have hf0 := hrow.frozen (k * 2)
      have hf1 := hrow.frozen (k * 2 + 1)
      have Z : Aside (wr.rowIs w.heap.size 30 (n * 2) (fun j => if j < k * 2 then bcell N P j else f0 j) ∧ Below w.heap.size w wr) := ⟨hrow, hbel⟩
      clear hrow hbel h1 h2
      go_wp2
      go_region
      go_wp2
      go_roundg (n - (k + 1))
      case measure => omega
      case rel =>
        obtain ⟨hrow, hbel⟩ := Z.out
        refine ⟨k + 1, by go_num, by omega, by omega, ⟨f0, ?_⟩, ((hbel.setCell (Nat.le_refl _) _).setCell (Nat.le_refl _) _).drew⟩
        refine (((hrow.set (k * 2) (.int .i64 (N k))).set (k * 2 + 1) (.bool (P k))).drew).congr (fun i hi => ?_)
        by_cases e1 : i = k * 2 + 1
        · subst e1; rw [if_pos rfl, if_pos (by omega), bcell_odd]
        · by_cases e2 : i = k * 2
          · subst e2; rw [if_neg e1, if_pos rfl, if_pos (by omega), bcell_even]
          · by_cases e3 : i < k * 2
            · rw [if_neg e1, if_neg e2, if_pos e3, if_pos (by omega)]
            · rw [if_neg e1, if_neg e2, if_neg e3, if_neg (by omega)]
    · have e : k = n := by omega
      subst e
      have Z : Aside (wr.rowIs w.heap.size 30 (k * 2) (fun j => if j < k * 2 then bcell N P j else f0 j) ∧ Below w.heap.size w wr) := ⟨hrow, hbel⟩
      clear hrow hbel
      go_wp2
      go_ret
      exact ⟨rfl, Z.out.1.congr (fun i hi => by rw [if_pos hi]), Z.out.2⟩

/-- The built row, as a row of batches. -/
theorem row_of {w : World} {g n : Nat} {N : Nat → Int} {P : Nat → Bool} (h : w.rowIs g 30 (n * 2) (bcell N P)) : BRow w (some ⟨g, 0, none⟩) n N P :=
  ⟨fun _ => ⟨g, 0, rfl, h.lt, fun i hi => by rw [Nat.zero_add, h.cell (by omega), bcell_even], fun i hi => by rw [Nat.zero_add, h.cell (by omega), bcell_odd]⟩⟩

/-- One batch's size. -/
def szB (N : Int) (P : Bool) (total : Int) : Int := max (if P then wrap64 ((wrap64 (wrap64 (N * total) + 99)).tdiv 100) else N) 1

theorem wrap64_le (x : Int) : wrap64 x ≤ 9223372036854775807 := by unfold wrap64; omega

theorem szB_bd (N : Int) (P : Bool) (total : Int) (hN : N ≤ 9223372036854775807) : 1 ≤ szB N P total ∧ szB N P total ≤ 9223372036854775807 := by
  unfold szB
  have h := wrap64_le ((wrap64 (wrap64 (N * total) + 99)).tdiv 100)
  split <;> omega

theorem ret_int {k : IntKind} {a b : Int} (h : a = b) : Ending.returned (.int k a) = .returned (.int k b) := by rw [h]

set_option maxHeartbeats 1000000 in
theorem of1_at (N : Int) (P : Bool) (total : Int) (w : World) :
    Calls Try.prog 9 #[.agg #[.int .i64 N, .bool P], .int .i64 total] w fun e w' => e = .returned (.int .i64 (szB N P total)) ∧ Below w.heap.size w w' := by
  cases P with
  | false =>
    have hs : szB N false total = max N 1 := rfl
    have HS : Aside (szB N false total = max N 1) := hs
    clear hs
    go_enter Try.func9, Try.ntmps9
    go_wp2
    all_goals
      go_ret
      exact ⟨ret_int (by rw [HS.out]; omega), (Below.refl _ _).alloc (Nat.le_refl _) _⟩
  | true =>
    have HS : Aside (szB N true total = max (wrap64 ((wrap64 (wrap64 (N * total) + 99)).tdiv 100)) 1) := rfl
    go_enter Try.func9, Try.ntmps9
    go_wp2
    all_goals
      go_ret
      exact ⟨ret_int (by rw [HS.out]; omega), (Below.refl _ _).alloc (Nat.le_refl _) _⟩

end Go.Proofs.Qxb6629303a.W
