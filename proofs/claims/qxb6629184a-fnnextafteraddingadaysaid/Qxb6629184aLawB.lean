import Derived.Test.Qxb6629184aWalksE
namespace Go.Proofs.Qxb6629184a.W
open Go.RowKit
set_option linter.unusedVariables false
set_option maxRecDepth 100000

theorem mk1 (w : World) : (Instr.makeSlice 22 (.int .i64 1) (.int .i64 1)).run Try.prog w = .ok (.slice (some ⟨w.heap.size, 0, none⟩) 1 1) (w.alloc (.cells #[.int .i32 0] 21)) := by
  have h := run_make_row' (P := Try.prog) 22 21 (.int .i32 0) 4 Try.underlying22 info21 rfl .i64 .i64 1 (by omega) (by omega) w
  have e : madeCells #[Value.int .i32 0] 1 = #[Value.int .i32 0] := by kernel_rfl
  rw [e] at h
  exact h

theorem row_one (w : World) (e : Int) : Row (w.alloc (.cells #[.int .i32 e] 21)) (some ⟨w.heap.size, 0, none⟩) 1 1 (ins (fun _ => 0) 0 e) := by
  refine .inr ⟨by omega, _, _, rfl, by simp, fun j hj => ?_⟩
  have : j = 0 := by omega
  subst this
  rw [ins_eq]
  simp

set_option maxHeartbeats 4000000 in
theorem lawB_zero (a : Option Addr) (cap : Nat) (d e : Int) (w : World) (ha : a = none → cap = 0) :
    Calls Try.prog 4 #[.slice a 0 cap, .int .i32 e, .int .i32 d] w fun e w' => e = .returned (.bool true) ∧ Below w.heap.size w w' := by
  have hmk : ∀ w : World, (Instr.makeSlice 22 (.int .i64 1) (.int .i64 1)).run Try.prog w = .ok (.slice (some ⟨w.heap.size, 0, none⟩) 1 1) (w.alloc (.cells #[.int .i32 0] 21)) := fun w => mk1 w
  have A : Aside (Asc (fun _ => 0) 0) := fun i j h1 h2 => absurd h2 (Nat.not_lt_zero _)
  obtain ⟨k1, hk1⟩ : ∃ k1, PartsAt (fun _ => 0) 0 d k1 := ⟨0, parts_zero _ _⟩
  obtain ⟨k2, hk2, hwt⟩ := want_ins (e := e) (p := 0) hk1 (Nat.le_refl _) (fun t h => absurd h (Nat.not_lt_zero _)) (fun t _ h => absurd h (Nat.not_lt_zero _))
  have AM : Aside (Asc (ins (fun _ => 0) 0 e) 1) := ins_asc (n := 0) A.out (Nat.le_refl _) (fun t h => absurd h (Nat.not_lt_zero _)) (fun t _ h => absurd h (Nat.not_lt_zero _))
  have K1 : Aside (PartsAt (fun _ => 0) 0 d k1) := hk1
  have K2 : Aside (PartsAt (ins (fun _ => 0) 0 e) 1 d k2) := hk2
  have WT : Aside (Want (fun _ => 0) 0 k1 d e (ins (fun _ => 0) 0 e) 1 k2) := hwt
  clear hk1 hk2 hwt
  go_enter Try.func4, Try.ntmps4
  go_wp2_with (first | (go_at_call 10; refine (bytes2_le _ _ _ _ _ _ (by omega)).mono ?_; rintro e w' ⟨rfl, rfl⟩) | (go_at_call 6; refine (asc_none _ _ _).mono ?_; rintro e w' ⟨rfl, rfl⟩))
  refine wp_loop_rounds 1 ?_
  rw [rounds_succ]
  go_wp2
  refine wp_loop_rounds 1 ?_
  rw [rounds_succ]
  go_wp2
  refine wp_loop_rounds 1 ?_
  rw [rounds_succ]
  go_wp2_with fail
  have hrD : Aside (Row (w.alloc (.cells #[.int .i32 e] 21)) a 0 cap (fun _ => 0)) := .inl ⟨rfl, ha⟩
  have hrM : Aside (Row (w.alloc (.cells #[.int .i32 e] 21)) (some ⟨w.heap.size, 0, none⟩) 1 1 (ins (fun _ => 0) 0 e)) := row_one w e
  have hbW : Aside (Below w.heap.size w (w.alloc (.cells #[.int .i32 e] 21))) := (Below.refl _ _).alloc (Nat.le_refl _) _
  clear hmk
  generalize w.alloc (.cells #[.int .i32 e] 21) = W at *
  refine (toDates_gen a 0 cap (fun _ => 0) W hrD.out (by omega)).mono ?_
  rintro _ w1 ⟨a1, rfl, hr1, hb1⟩
  have X1 : Aside (Row w1 a1 0 0 (fun _ => 0) ∧ Below W.heap.size W w1) := ⟨hr1, hb1⟩
  clear hr1 hb1
  go_wp2_with (go_at_call 7; refine (newCal _ _ ⟨_, _, _, rfl⟩).mono ?_; rintro _ w' ⟨rfl, rfl⟩)
  refine (toDates_gen (some ⟨w.heap.size, 0, none⟩) 1 1 (ins (fun _ => 0) 0 e) (w1.alloc (.cells #[.slice a1 0 0] 34)) ((hrM.out.later X1.out.2).later ((Below.refl _ _).alloc (Nat.le_refl _) _)) (by omega)).mono ?_
  rintro _ w3 ⟨a2, rfl, hr3, hb3⟩
  have X3 : Aside (Two w (w3.alloc (.cells #[.slice a2 1 1] 34)) w1.heap.size w3.heap.size a1 a2 0 1 (fun _ => 0) (ins (fun _ => 0) 0 e)) := two_of X1.out.1 (hbW.out.trans (X1.out.2.mono hbW.out.size)) hr3 hb3
  clear hr3 hb3 X1
  go_wp2_with (go_at_call 7; refine (newCal _ _ ⟨_, _, _, rfl⟩).mono ?_; rintro _ w' ⟨rfl, rfl⟩)
  generalize w3.alloc (.cells #[.slice a2 1 1] 34) = W4 at *
  generalize w1.heap.size = D1 at *
  generalize w3.heap.size = D2 at *
  obtain ⟨v1, o1, v2, o2, g1, g2, hres⟩ := five K1.out K2.out WT.out
  have G1 : Aside ((k1 < 0 ∧ v1 = (fun _ => 0) k1 ∧ o1 = true) ∨ (k1 = 0 ∧ v1 = 0 ∧ o1 = false)) := g1
  have G2 : Aside ((k2 < 1 ∧ v2 = (ins (fun _ => 0) 0 e) k2 ∧ o2 = true) ∨ (k2 = 1 ∧ v2 = 0 ∧ o2 = false)) := g2
  clear g1 g2
  rcases hres with ⟨rfl, rfl, rfl, hn0, hl, hx1, hx2, hx3⟩ | ⟨rfl, rfl, rfl, hn0, hl, hx1, hx2⟩ | ⟨rfl, rfl, rfl, hn0, hl, hx1, hx2, hx3⟩ | ⟨rfl, rfl, rfl, rfl, hl, hx1⟩ | ⟨rfl, rfl, rfl, rfl, hl, hx1⟩
  · exact absurd hn0 (Nat.lt_irrefl _)
  · exact absurd hn0 (Nat.lt_irrefl _)
  · exact absurd hn0 (Nat.lt_irrefl _)
  · clear hl
    refine (next_gen D1 0 k1 a1 (fun _ => 0) d 0 false W4 (by omega) X3.out.cal1 X3.out.row1 A.out K1.out (by have := G1.out; simpa using this)).mono ?_
    rintro _ w5 ⟨rfl, q1, rfl⟩
    go_wp2_with fail
    refine (next_gen D2 1 k2 a2 (ins (fun _ => 0) 0 e) d e true (W4.drewN q1) (by omega) X3.out.cal2 X3.out.row2 AM.out K2.out (by have := G2.out; simpa using this)).mono ?_
    rintro _ w6 ⟨rfl, q2, rfl⟩
    go_wp2
    go_ret
    exact ⟨by simp, below_drewN X3.out.bel _⟩
  · clear hl
    refine (next_gen D1 0 k1 a1 (fun _ => 0) d 0 false W4 (by omega) X3.out.cal1 X3.out.row1 A.out K1.out (by have := G1.out; simpa using this)).mono ?_
    rintro _ w5 ⟨rfl, q1, rfl⟩
    go_wp2_with fail
    refine (next_gen D2 1 k2 a2 (ins (fun _ => 0) 0 e) d 0 false (W4.drewN q1) (by omega) X3.out.cal2 X3.out.row2 AM.out K2.out (by have := G2.out; simpa using this)).mono ?_
    rintro _ w6 ⟨rfl, q2, rfl⟩
    go_wp2
    go_ret
    exact ⟨by simp, below_drewN X3.out.bel _⟩

end Go.Proofs.Qxb6629184a.W
