import Derived.Test.Qxb6629303aRows
import Derived.WalkKit
import Derived.Deep.LoopGhost
import Derived.Deep.Draws
import Derived.Deep.OwnRows
import Derived.Deep.QuietTactic
import Derived.Deep.DeepCutAuto
import Derived.Deep.CutBlock
import Derived.Deep.AppendLies
import Derived.BigQuiet
import Derived.Below
import Derived.WalkSpells
import Derived.WalkLawsBesides
namespace Go.Proofs.Qxb6629303a.W
open Go.RowKit
set_option linter.unusedVariables false
set_option maxRecDepth 100000

theorem bytes_le (a : Option Addr) (len cap : Nat) (x y : Int) (w : World) (h : len ≤ 1048576) :
    Calls Try.prog 5 #[.slice a len cap, .int .i64 x, .int .i64 y] w fun e w' => e = .returned (.bool true) ∧ w = w' := by
  go_enter Try.func5, Try.ntmps5
  go_wp2
  go_ret
  exact ⟨rfl, rfl⟩

theorem bytes_gt (a : Option Addr) (len cap : Nat) (x y : Int) (w : World) (h : 1048576 < len) :
    Calls Try.prog 5 #[.slice a len cap, .int .i64 x, .int .i64 y] w fun e w' => e = .returned (.bool false) ∧ w = w' := by
  go_enter Try.func5, Try.ntmps5
  go_wp2
  go_ret
  exact ⟨rfl, rfl⟩

theorem bytes2_le (a : Option Addr) (len cap : Nat) (x y z : Int) (w : World) (h : len ≤ 1048576) :
    Calls Try.prog 10 #[.slice a len cap, .int .i64 x, .int .i64 y, .int .i64 z] w fun e w' => e = .returned (.bool true) ∧ w = w' := by
  go_enter Try.func10, Try.ntmps10
  go_wp2
  go_ret
  exact ⟨rfl, rfl⟩

theorem bytes2_gt (a : Option Addr) (len cap : Nat) (x y z : Int) (w : World) (h : 1048576 < len) :
    Calls Try.prog 10 #[.slice a len cap, .int .i64 x, .int .i64 y, .int .i64 z] w fun e w' => e = .returned (.bool false) ∧ w = w' := by
  go_enter Try.func10, Try.ntmps10
  go_wp2
  go_ret
  exact ⟨rfl, rfl⟩

/-- A row of batches in memory: n structs of two cells, told by N and P; nothing is said where n = 0. -/
structure BRow (w : World) (a : Option Addr) (n : Nat) (N : Nat → Int) (P : Nat → Bool) : Prop where
  addr : 0 < n → ∃ b off, a = some ⟨b, off, none⟩ ∧ b < w.heap.size ∧ (∀ i, i < n → w.cell? ⟨b, off + i * 2, none⟩ = some (.int .i64 (N i))) ∧ (∀ i, i < n → w.cell? ⟨b, off + i * 2 + 1, none⟩ = some (.bool (P i)))

theorem BRow.later {w w' : World} {a : Option Addr} {n : Nat} {N : Nat → Int} {P : Nat → Bool} (h : BRow w a n N P) (hb : Below w.heap.size w w') : BRow w' a n N P :=
  ⟨fun h0 => by
    obtain ⟨b, off, e, hlt, h1, h2⟩ := h.addr h0
    exact ⟨b, off, e, Nat.lt_of_lt_of_le hlt hb.size, fun i hi => cell_later hb (h1 i hi), fun i hi => cell_later hb (h2 i hi)⟩⟩

/-- What zzInRange means, where it says yes. -/
structure InR (n : Nat) (N : Nat → Int) (P : Nat → Bool) (total skip : Int) : Prop where
  t1 : -2147483648 ≤ total
  t2 : total ≤ 2147483648
  s1 : -2147483648 ≤ skip
  s2 : skip ≤ 2147483648
  d : total - skip ≤ 65536
  each : ∀ i, i < n → P i = true → -2147483648 ≤ N i ∧ N i ≤ 2147483648

def RPost (n : Nat) (N : Nat → Int) (P : Nat → Bool) (total skip : Int) (w : World) (e : Ending) (w' : World) : Prop := (∃ r, e = .returned (.bool r) ∧ (r = true → InR n N P total skip)) ∧ w = w'
theorem RPost.no {n : Nat} {N : Nat → Int} {P : Nat → Bool} {total skip : Int} {w : World} {e : Ending} (h : e = .returned (.bool false)) : RPost n N P total skip w e w := ⟨⟨false, h, fun h => by cases h⟩, rfl⟩
theorem RPost.yes {n : Nat} {N : Nat → Int} {P : Nat → Bool} {total skip : Int} {w : World} {e : Ending} (h : e = .returned (.bool true)) (hr : InR n N P total skip) : RPost n N P total skip w e w := ⟨⟨true, h, fun _ => hr⟩, rfl⟩

set_option maxHeartbeats 1000000 in
theorem inRange_at (a : Option Addr) (n cap : Nat) (N : Nat → Int) (P : Nat → Bool) (total skip : Int) (w : World) (hm : n ≤ 65536) (R : BRow w a n N P) :
    Calls Try.prog 6 #[.slice a n cap, .int .i64 total, .int .i64 skip] w (RPost n N P total skip w) := by
  have RR : Aside (BRow w a n N P) := R
  clear R
  by_cases t1 : -2147483648 ≤ total
  · have bt1 : decide (total < -2147483648) = false := decide_eq_false (by omega)
    by_cases t2 : total ≤ 2147483648
    · have bt2 : decide (2147483648 < total) = false := decide_eq_false (by omega)
      by_cases s1 : -2147483648 ≤ skip
      · have bs1 : decide (skip < -2147483648) = false := decide_eq_false (by omega)
        by_cases s2 : skip ≤ 2147483648
        · have bs2 : decide (2147483648 < skip) = false := decide_eq_false (by omega)
          by_cases d : total - skip ≤ 65536
          · have bd : decide (65536 < total - skip) = false := decide_eq_false (by omega)
            go_enter Try.func6, Try.ntmps6
            go_wp2
            clear bt1 bt2 bs1 bs2 bd
            go_loopg [7] n (fun g s wr => ∃ k : Nat, s = .int .i64 k ∧ k ≤ n ∧ n - k ≤ g ∧ w = wr ∧ ∀ i, i < k → P i = true → -2147483648 ≤ N i ∧ N i ≤ 2147483648)
            case atStart => exact ⟨0, rfl, Nat.zero_le _, by omega, rfl, fun i h => absurd h (Nat.not_lt_zero _)⟩
            case round =>
              obtain ⟨k, rfl, hk, hg, rfl, hall⟩ := hrel
              have AL : Aside (∀ i, i < k → P i = true → -2147483648 ≤ N i ∧ N i ≤ 2147483648) := hall
              clear hall
              by_cases hlt : k < n
              · obtain ⟨b, off, rfl, hbl, h1, h2⟩ := RR.out.addr (by omega)
                have c1 := h1 k hlt
                have c2 := h2 k hlt
                clear h1 h2
                have NX : Aside ((P k = true → -2147483648 ≤ N k ∧ N k ≤ 2147483648) → ∀ i, i < k + 1 → P i = true → -2147483648 ≤ N i ∧ N i ≤ 2147483648) := fun h i hi hp => by
                  by_cases e : i = k
                  · subst e; exact h hp
                  · exact AL.out i (by omega) hp
                generalize N k = x at c1 NX
                generalize P k = y at c2 NX
                cases y with
                | false =>
                  go_wp2
                  go_roundg (n - (k + 1))
                  case measure => omega
                  case rel => exact ⟨k + 1, by go_num, by omega, by omega, rfl, NX.out (fun h => by cases h)⟩
                | true =>
                  by_cases x1 : -2147483648 ≤ x
                  · have bx1 : decide (x < -2147483648) = false := decide_eq_false (by omega)
                    by_cases x2 : x ≤ 2147483648
                    · have bx2 : decide (2147483648 < x) = false := decide_eq_false (by omega)
                      go_wp2
                      go_roundg (n - (k + 1))
                      case measure => omega
                      case rel => exact ⟨k + 1, by go_num, by omega, by omega, rfl, NX.out (fun _ => ⟨x1, x2⟩)⟩
                    · have bx2 : decide (2147483648 < x) = true := decide_eq_true (by omega)
                      go_wp2
                      go_ret
                      exact RPost.no rfl
                  · have bx1 : decide (x < -2147483648) = true := decide_eq_true (by omega)
                    go_wp2
                    go_ret
                    exact RPost.no rfl
              · have e : k = n := by omega
                subst e
                go_wp2
                go_ret
                exact RPost.yes rfl ⟨t1, t2, s1, s2, d, AL.out⟩
          · have bd : decide (65536 < total - skip) = true := decide_eq_true (by omega)
            go_enter Try.func6, Try.ntmps6
            go_wp2
            go_ret
            exact RPost.no rfl
        · have bs2 : decide (2147483648 < skip) = true := decide_eq_true (by omega)
          go_enter Try.func6, Try.ntmps6
          go_wp2
          go_ret
          exact RPost.no rfl
      · have bs1 : decide (skip < -2147483648) = true := decide_eq_true (by omega)
        go_enter Try.func6, Try.ntmps6
        go_wp2
        go_ret
        exact RPost.no rfl
    · have bt2 : decide (2147483648 < total) = true := decide_eq_true (by omega)
      go_enter Try.func6, Try.ntmps6
      go_wp2
      go_ret
      exact RPost.no rfl
  · have bt1 : decide (total < -2147483648) = true := decide_eq_true (by omega)
    go_enter Try.func6, Try.ntmps6
    go_wp2
    go_ret
    exact RPost.no rfl

end Go.Proofs.Qxb6629303a.W
