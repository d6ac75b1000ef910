import Derived.Test.Qxb6629367aRows
import Derived.WalkKit
import Derived.Deep.LoopGhost
import Derived.Deep.Draws
import Derived.Deep.OwnRows
import Derived.Deep.QuietTactic
import Derived.Deep.DeepCutAuto
import Derived.Deep.CutBlock
import Derived.Deep.AppendLies
import Derived.BigQuiet
import Derived.Below
import Derived.WalkSpells
import Derived.WalkLawsBesides
namespace Go.Proofs.Qxb6629367a.W
open Go.RowKit
set_option linter.unusedVariables false
set_option maxRecDepth 100000

/-- A row of entries in memory: n structs of three cells; nothing is said where n = 0. -/
structure FRow (w : World) (a : Option Addr) (n : Nat) (A : Nat → Int) (S : Nat → ByteArray) (P : Nat → Bool) : Prop where
  addr : 0 < n → ∃ b off, a = some ⟨b, off, none⟩ ∧ b < w.heap.size ∧ (∀ i, i < n → w.cell? ⟨b, off + i * 3, none⟩ = some (.int .i64 (A i))) ∧ (∀ i, i < n → w.cell? ⟨b, off + i * 3 + 1, none⟩ = some (.string (S i))) ∧ (∀ i, i < n → w.cell? ⟨b, off + i * 3 + 2, none⟩ = some (.bool (P i)))

theorem FRow.later {w w' : World} {a : Option Addr} {n : Nat} {A : Nat → Int} {S : Nat → ByteArray} {P : Nat → Bool} (h : FRow w a n A S P) (hb : Below w.heap.size w w') : FRow w' a n A S P :=
  ⟨fun h0 => by
    obtain ⟨b, off, e, hlt, h1, h2, h3⟩ := h.addr h0
    exact ⟨b, off, e, Nat.lt_of_lt_of_le hlt hb.size, fun i hi => cell_later hb (h1 i hi), fun i hi => cell_later hb (h2 i hi), fun i hi => cell_later hb (h3 i hi)⟩⟩

def ZPost (w : World) (e : Ending) (w' : World) : Prop := (∃ r, e = .returned (.bool r)) ∧ w = w'
theorem ZPost.mk' {w : World} {e : Ending} {r : Bool} (h : e = .returned (.bool r)) : ZPost w e w := ⟨⟨r, h⟩, rfl⟩

def TPost (n : Nat) (w : World) (e : Ending) (w' : World) : Prop := (∃ t, e = .returned (.int .i64 t) ∧ 0 ≤ t ∧ (t ≤ 1048576 → n ≤ 32768)) ∧ w = w'
theorem TPost.mk' {n : Nat} {w : World} {e : Ending} {t : Int} (h : e = .returned (.int .i64 t)) (h0 : 0 ≤ t) (h1 : t ≤ 1048576 → n ≤ 32768) : TPost n w e w := ⟨⟨t, h, h0, h1⟩, rfl⟩

set_option maxHeartbeats 1000000 in
theorem bytes_at (total : Int) (a : Option Addr) (n cap : Nat) (A : Nat → Int) (S : Nat → ByteArray) (P : Nat → Bool) (w : World) (h0 : 0 ≤ total) (h1 : total ≤ 1048576) (R : FRow w a n A S P) :
    Calls Try.prog 6 #[.int .i64 total, .slice a n cap] w (TPost n w) := by
  have RR : Aside (FRow w a n A S P) := R
  clear R
  by_cases hm : n ≤ 65536
  · have hb0 : decide (65536 < (n : Int)) = false := decide_eq_false (by omega)
    by_cases ht : total + 32 * n ≤ 1048576
    · have hb1 : decide (1048576 < total + 32 * (n : Int)) = false := decide_eq_false (by omega)
      have hn : n ≤ 32768 := by omega
      go_enter Try.func6, Try.ntmps6
      go_wp2
      go_loopg [0, 5] n (fun g s0 s wr => ∃ (t : Int) (k : Nat), s0 = .int .i64 t ∧ s = .int .i64 k ∧ 0 ≤ t ∧ t ≤ 1048576 ∧ k ≤ n ∧ n - k ≤ g ∧ w = wr)
      case atStart => exact ⟨_, 0, rfl, rfl, by omega, by omega, Nat.zero_le _, by omega, rfl⟩
      case round =>
        clear hb0 hb1
        obtain ⟨t, k, rfl, rfl, ht0, ht1, hk, hg, rfl⟩ := hrel
        by_cases hlt : k < n
        · obtain ⟨b, off, rfl, hbl, c1, c2, c3⟩ := RR.out.addr (by omega)
          have d2 := c2 k hlt
          clear c1 c2 c3
          generalize S k = s at d2
          by_cases hs : s.size ≤ 1048576
          · have hs1 : decide (1048576 < (s.size : Int)) = false := decide_eq_false (by omega)
            by_cases hs2 : t + s.size ≤ 1048576
            · have hs3 : decide (1048576 < t + (s.size : Int)) = false := decide_eq_false (by omega)
              go_wp2
              go_roundg (n - (k + 1))
              case measure => omega
              case rel => exact ⟨_, k + 1, rfl, by go_num, by omega, by omega, by omega, by omega, rfl⟩
            · have hs3 : decide (1048576 < t + (s.size : Int)) = true := decide_eq_true (by omega)
              go_wp2
              go_ret
              exact TPost.mk' rfl (by omega) (fun _ => hn)
          · have hs1 : decide (1048576 < (s.size : Int)) = true := decide_eq_true (by omega)
            go_wp2
            go_ret
            exact TPost.mk' rfl (by omega) (fun _ => hn)
        · have e : k = n := by omega
          subst e
          go_wp2
          go_ret
          exact TPost.mk' rfl (by omega) (fun _ => hn)
    · have hb1 : decide (1048576 < total + 32 * (n : Int)) = true := decide_eq_true (by omega)
      go_enter Try.func6, Try.ntmps6
      go_wp2
      go_ret
      exact TPost.mk' rfl (by omega) (fun h => by omega)
  · have hb0 : decide (65536 < (n : Int)) = true := decide_eq_true (by omega)
    go_enter Try.func6, Try.ntmps6
    go_wp2
    go_ret
    exact TPost.mk' rfl (by omega) (fun h => by omega)

set_option maxHeartbeats 1000000 in
theorem holds_at (l : Int) (s : ByteArray) (p : Bool) (w : World) :
    Calls Try.prog 7 #[.agg #[.int .i64 l, .string s, .bool p]] w fun e w' => e = .returned (.bool (p && decide (0 < l))) ∧ Below w.heap.size w w' := by
  cases p with
  | false =>
    go_enter Try.func7, Try.ntmps7
    go_wp2
    go_ret
    exact ⟨rfl, (Below.refl _ _).alloc (Nat.le_refl _) _⟩
  | true =>
    go_enter Try.func7, Try.ntmps7
    go_wp2
    go_ret
    exact ⟨rfl, (Below.refl _ _).alloc (Nat.le_refl _) _⟩

/-- The value of an Info that MultiFile has made. -/
def infoV (name : ByteArray) (len : Int) (f p : Value) : Value := .agg #[.string name, .int .i64 len, .int .i64 0, .slice none 0 0, f, p]

set_option maxHeartbeats 1000000 in
theorem files_at (name : ByteArray) (len : Int) (f p : Value) (w : World) :
    Calls Try.prog 11 #[infoV name len f p] w fun e w' => e = .returned f ∧ Below w.heap.size w w' := by
  unfold infoV
  go_enter Try.func11, Try.ntmps11
  go_wp2
  go_ret
  exact ⟨rfl, (Below.refl _ _).alloc (Nat.le_refl _) _⟩

set_option maxHeartbeats 1000000 in
theorem padLen_at (name : ByteArray) (len : Int) (f : Value) (a : Option Addr) (n c : Nat) (w : World) :
    Calls Try.prog 12 #[infoV name len f (.slice a n c)] w fun e w' => e = .returned (.int .i64 n) ∧ Below w.heap.size w w' := by
  unfold infoV
  go_enter Try.func12, Try.ntmps12
  go_wp2
  go_ret
  exact ⟨rfl, (Below.refl _ _).alloc (Nat.le_refl _) _⟩

set_option maxHeartbeats 1000000 in
theorem padAt_at (name : ByteArray) (len : Int) (f : Value) (g n c k : Nat) (x y : Int) (w : World) (hk : k < n) (h1 : w.cell? ⟨g, k * 2, none⟩ = some (.int .i64 x)) (h2 : w.cell? ⟨g, k * 2 + 1, none⟩ = some (.int .i64 y)) :
    Calls Try.prog 13 #[infoV name len f (.slice (some ⟨g, 0, none⟩) n c), .int .i64 k] w fun e w' => e = .returned (.tuple #[.int .i64 x, .int .i64 y]) ∧ Below w.heap.size w w' := by
  unfold infoV
  have hg : g < w.heap.size := World.block_lt_of_cell? _ _ h1
  have hne : g ≠ w.heap.size := Nat.ne_of_lt hg
  have q1 : ∀ o, (w.alloc o).cell? ⟨g, k * 2, none⟩ = some (.int .i64 x) := fun o => cell_later ((Below.refl _ _).alloc (Nat.le_refl _) _) h1
  have q2 : ∀ o, (w.alloc o).cell? ⟨g, k * 2 + 1, none⟩ = some (.int .i64 y) := fun o => cell_later ((Below.refl _ _).alloc (Nat.le_refl _) _) h2
  clear h1 h2
  go_enter Try.func13, Try.ntmps13
  go_wp2
  go_quiet (fail)
  go_wp2
  go_ret2
  exact ⟨rfl, below_drewN ((Below.refl _ _).alloc (Nat.le_refl _) _) _⟩

set_option maxHeartbeats 1000000 in
theorem eq_at (l : Int) (s : ByteArray) (p : Bool) (w : World) :
    Calls Try.prog 16 #[.agg #[.int .i64 l, .string s, .bool p], .agg #[.int .i64 l, .string s, .bool p]] w fun e w' => e = .returned (.bool true) ∧ Below w.heap.size w w' := by
  go_enter Try.func16, Try.ntmps16
  go_wp2
  go_ret
  exact ⟨rfl, ((Below.refl _ _).alloc (Nat.le_refl _) _).alloc (by simp) _⟩

end Go.Proofs.Qxb6629367a.W
