import Derived.Test.Qxb6629184aRows
import Derived.WalkKit
import Derived.Deep.LoopGhost
import Derived.Deep.Draws
import Derived.Deep.OwnRows
import Derived.Deep.QuietTactic
import Derived.BigQuiet
import Derived.Below
import Derived.WalkSpells
import Derived.WalkLawsBesides
namespace Go.Proofs.Qxb6629184a.W
open Go.RowKit

set_option maxHeartbeats 400000 in
theorem bytes_le (a : Option Addr) (len cap : Nat) (d : Int) (w : World) (h : len ≤ 1048576) :
    Calls Try.prog 5 #[.slice a len cap, .int .i32 d] w fun e w' => e = .returned (.bool true) ∧ w = w' := by
  go_enter Try.func5, Try.ntmps5
  go_wp2
  go_ret
  exact ⟨rfl, rfl⟩

set_option maxHeartbeats 400000 in
theorem bytes_gt (a : Option Addr) (len cap : Nat) (d : Int) (w : World) (h : 1048576 < len) :
    Calls Try.prog 5 #[.slice a len cap, .int .i32 d] w fun e w' => e = .returned (.bool false) ∧ w = w' := by
  go_enter Try.func5, Try.ntmps5
  go_wp2
  go_ret
  exact ⟨rfl, rfl⟩

set_option maxHeartbeats 400000 in
theorem bytes2_le (a : Option Addr) (len cap : Nat) (d e : Int) (w : World) (h : len ≤ 1048576) :
    Calls Try.prog 10 #[.slice a len cap, .int .i32 d, .int .i32 e] w fun e w' => e = .returned (.bool true) ∧ w = w' := by
  go_enter Try.func10, Try.ntmps10
  go_wp2
  go_ret
  exact ⟨rfl, rfl⟩

set_option maxHeartbeats 400000 in
theorem bytes2_gt (a : Option Addr) (len cap : Nat) (d e : Int) (w : World) (h : 1048576 < len) :
    Calls Try.prog 10 #[.slice a len cap, .int .i32 d, .int .i32 e] w fun e w' => e = .returned (.bool false) ∧ w = w' := by
  go_enter Try.func10, Try.ntmps10
  go_wp2
  go_ret
  exact ⟨rfl, rfl⟩

set_option maxHeartbeats 400000 in
theorem asc_none (a : Option Addr) (cap : Nat) (w : World) :
    Calls Try.prog 6 #[.slice a 0 cap] w fun e w' => e = .returned (.bool true) ∧ w = w' := by
  go_enter Try.func6, Try.ntmps6
  go_wp2
  refine wp_loop_rounds 1 ?_
  rw [rounds_succ]
  go_wp2
  go_ret
  exact ⟨rfl, rfl⟩

set_option maxHeartbeats 1000000 in
theorem asc_any (b off n cap : Nat) (f : Nat → Int) (w : World) (hn : 0 < n) (hm : n ≤ 65536)
    (hc : ∀ j, j < n → w.cell? ⟨b, off + j, none⟩ = some (.int .i32 (f j))) :
    Calls Try.prog 6 #[.slice (some ⟨b, off, none⟩) n cap] w fun e w' => (∃ r, e = .returned (.bool r) ∧ (r = true → ∀ i, i + 1 < n → f i < f (i + 1))) ∧ ∃ q, w' = w.drewN q := by
  go_enter Try.func6, Try.ntmps6
  go_wp2
  go_loopg [3] n (fun g s wr => ∃ k q : Nat, s = .int .i64 (k + 1 : Nat) ∧ k + 1 ≤ n ∧ n - k ≤ g ∧ wr = w.drewN q ∧ ∀ i, i < k → f i < f (i + 1))
  case atStart => exact ⟨0, 0, rfl, by omega, by omega, rfl, fun i hi => absurd hi (Nat.not_lt_zero _)⟩
  case round =>
    obtain ⟨k, q, rfl, hk, hg, rfl, hr⟩ := hrel
    have R : Aside (∀ i, i < k → f i < f (i + 1)) := hr
    clear hr
    by_cases hlt : k + 1 < n
    · have c0 : w.cell? ⟨b, off + k, none⟩ = some (.int .i32 (f k)) := hc _ (by omega)
      have c1 : w.cell? ⟨b, off + (k + 1), none⟩ = some (.int .i32 (f (k + 1))) := hc _ (by omega)
      clear hc
      go_wp2
      go_quiet (fail)
      go_wp2
      · go_ret
        exact ⟨⟨false, rfl, fun h => by cases h⟩, _, World.drewN_drewN _ _ _⟩
      · have hlt2 : f k < f (k + 1) := by assumption
        go_roundg (n - (k + 1))
        case measure => omega
        case rel =>
          refine ⟨k + 1, _, by go_num, by omega, by omega, rfl, fun i hi => ?_⟩
          by_cases e : i = k
          · subst e; exact hlt2
          · exact R.out i (by omega)
    · go_wp2
      go_ret
      exact ⟨⟨true, rfl, fun _ i hi => R.out i (by omega)⟩, _, rfl⟩


theorem info29 : (Try.prog.info? 29).map (fun i => (i.zero, i.size, i.bytes)) = some (some (.int .i32 0), 1, 4) := by kernel_rfl

theorem eqnil (w : World) (a : Option Addr) (n c : Nat) : (binOp .eql 22 (.slice a n c) (.slice none 0 0)).run Try.prog w = .ok (.bool a.isNone) w :=
  Lib.run_eql_slice_nil w 22 21 a n c 0 0 Try.underlying22

set_option maxHeartbeats 400000 in
theorem toDates_nil (w : World) :
    Calls Try.prog 8 #[.slice none 0 0] w fun e w' => e = .returned (.slice none 0 0) ∧ w = w' := by
  have hq := eqnil
  go_enter Try.func8, Try.ntmps8
  go_wp2
  go_ret
  exact ⟨rfl, rfl⟩

set_option maxHeartbeats 400000 in
theorem toDates_zero (x : Addr) (cap : Nat) (f : Nat → Int) (w : World) :
    Calls Try.prog 8 #[.slice (some x) 0 cap] w fun e w' => e = .returned (.slice (some ⟨w.heap.size, 0, none⟩) 0 0) ∧ w'.rowIs w.heap.size 29 0 (fun j => .int .i32 (f j)) ∧ Below w.heap.size w w' ∧ w'.heap.size = w.heap.size + 1 := by
  have hmk : ∀ w : World, (Instr.makeSlice 27 (.int .i64 0) (.int .i64 0)).run Try.prog w = .ok (.slice (some ⟨w.heap.size, 0, none⟩) 0 0) (w.alloc (.cells (madeCells #[.int .i32 0] 0) 29)) := fun w => run_make_row' (P := Try.prog) 27 29 (.int .i32 0) 4 Try.underlying27 info29 rfl .i64 .i64 0 (by omega) (by omega) w
  have hq := eqnil
  go_enter Try.func8, Try.ntmps8
  go_wp2
  refine wp_loop_rounds 1 ?_
  rw [rounds_succ]
  go_wp2
  go_ret
  exact ⟨rfl, (World.rowIs_made w (.int .i32 0) 0 29).congr (fun i hi => absurd hi (Nat.not_lt_zero _)), (Below.refl _ _).alloc (Nat.le_refl _) _, by simp⟩

set_option maxHeartbeats 1000000 in
theorem toDates_pos (b off n cap : Nat) (f : Nat → Int) (w : World) (hn : 0 < n) (hm : n ≤ 100000) (hb : b < w.heap.size)
    (hc : ∀ j, j < n → w.cell? ⟨b, off + j, none⟩ = some (.int .i32 (f j))) :
    Calls Try.prog 8 #[.slice (some ⟨b, off, none⟩) n cap] w fun e w' => e = .returned (.slice (some ⟨w.heap.size, 0, none⟩) n n) ∧ w'.rowIs w.heap.size 29 n (fun j => .int .i32 (f j)) ∧ Below w.heap.size w w' ∧ w'.heap.size = w.heap.size + 1 := by
  have hmk := run_make_row' (P := Try.prog) 27 29 (.int .i32 0) 4 Try.underlying27 info29 rfl .i64 .i64 n (by omega) (by omega)
  have hq := eqnil
  go_enter Try.func8, Try.ntmps8
  go_wp2
  go_loopg [4] n (fun g s wr => ∃ k : Nat, s = .int .i64 k ∧ k ≤ n ∧ n - k ≤ g ∧ wr.rowIs w.heap.size 29 n (fun j => if j < k then .int .i32 (f j) else .int .i32 0) ∧ Below w.heap.size w wr ∧ wr.heap.size = w.heap.size + 1)
  case atStart => exact ⟨0, rfl, Nat.zero_le _, by omega, (World.rowIs_made w (.int .i32 0) n 29).congr (fun i hi => by simp), (Below.refl _ _).alloc (Nat.le_refl _) _, by simp⟩
  case round =>
    obtain ⟨k, rfl, hk, hg, hrow, hbel, hsz⟩ := hrel
    by_cases hlt : k < n
    · have c0 : wr.cell? ⟨b, off + k, none⟩ = some (.int .i32 (f k)) := (hbel.cell hb).trans (hc k hlt)
      obtain ⟨v, hv⟩ : ∃ v, wr.cell? ⟨w.heap.size, k, none⟩ = some v := ⟨_, hrow.cell hlt⟩
      have hfz : wr.frozen? ⟨w.heap.size, k, none⟩ = false := hrow.frozen k
      have R : Aside (wr.rowIs w.heap.size 29 n (fun j => if j < k then .int .i32 (f j) else .int .i32 0) ∧ Below w.heap.size w wr ∧ wr.heap.size = w.heap.size + 1) := ⟨hrow, hbel, hsz⟩
      clear hrow hbel hsz hc hmk
      go_wp2
      go_roundg (n - (k + 1))
      case measure => omega
      case rel =>
        obtain ⟨hrow, hbel, hsz⟩ := R.out
        refine ⟨k + 1, by go_num, by omega, by omega, (hrow.set k (.int .i32 (f k))).congr (fun i hi => ?_), hbel.setCell (Nat.le_refl _) _, by simpa using hsz⟩
        by_cases e : i = k
        · subst e; simp
        · by_cases e2 : i < k
          · rw [if_neg e, if_pos e2, if_pos (by omega)]
          · rw [if_neg e, if_neg e2, if_neg (by omega)]
    · have R : Aside (wr.rowIs w.heap.size 29 n (fun j => if j < k then .int .i32 (f j) else .int .i32 0) ∧ Below w.heap.size w wr ∧ wr.heap.size = w.heap.size + 1) := ⟨hrow, hbel, hsz⟩
      clear hrow hbel hsz hc hmk
      go_wp2
      go_ret
      obtain ⟨hrow, hbel, hsz⟩ := R.out
      exact ⟨rfl, hrow.congr (fun i hi => by rw [if_pos (by omega)]), hbel, hsz⟩
end Go.Proofs.Qxb6629184a.W
