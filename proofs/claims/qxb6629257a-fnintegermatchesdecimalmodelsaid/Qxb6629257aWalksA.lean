import Derived.Test.Qxb6629257aRows
import Derived.WalkKit
import Derived.Deep.LoopGhost
import Derived.Deep.Draws
import Derived.Deep.OwnRows
import Derived.Deep.QuietTactic
import Derived.BigQuiet
import Derived.Below
import Derived.WalkSpells
import Derived.WalkLawsBesides
namespace Go.Proofs.Qxb6629257a.W
open Go.RowKit
set_option linter.unusedVariables false
set_option maxRecDepth 100000

/-- w' is w, but for draws and for the walker's place, which is now i. -/
structure Moved (C : Nat) (w w' : World) (i : Nat) : Prop where
  os : w'.os = w.os
  tape : w'.tape = w.tape
  output : w'.output = w.output
  size : w'.heap.size = w.heap.size
  block : ∀ k, k ≠ C → w'.heap[k]? = w.heap[k]?
  data : w'.cell? ⟨C, 0, none⟩ = w.cell? ⟨C, 0, none⟩
  next : w'.cell? ⟨C, 1, none⟩ = some (.int .i64 i)
  frz : w'.frozen? ⟨C, 1, none⟩ = w.frozen? ⟨C, 1, none⟩

theorem Moved.refl {C : Nat} {w : World} {i : Nat} (h : w.cell? ⟨C, 1, none⟩ = some (.int .i64 i)) : Moved C w w i :=
  ⟨rfl, rfl, rfl, rfl, fun _ _ => rfl, rfl, h, rfl⟩

theorem Moved.trans {C : Nat} {w w' w'' : World} {i j : Nat} (h : Moved C w w' i) (k : Moved C w' w'' j) : Moved C w w'' j :=
  ⟨k.os.trans h.os, k.tape.trans h.tape, k.output.trans h.output, k.size.trans h.size, fun x hx => (k.block x hx).trans (h.block x hx), k.data.trans h.data, k.next, k.frz.trans h.frz⟩

theorem Moved.drewN {C : Nat} {w w' : World} {i : Nat} (h : Moved C w w' i) (q : Nat) : Moved C w (w'.drewN q) i :=
  ⟨h.os, h.tape, h.output, h.size, h.block, h.data, h.next, h.frz⟩

theorem Moved.set {C : Nat} {w w' : World} {i : Nat} (h : Moved C w w' i) (j : Nat) : Moved C w (w'.setCell ⟨C, 1, none⟩ (.int .i64 j)) j := by
  refine ⟨h.os, h.tape, h.output, by simpa using h.size, fun k hk => (Below.heap_setCell _ _ _ _ hk).trans (h.block k hk), ?_, ?_, ?_⟩
  · rw [← h.data]
    exact World.cell?_setCell_other w' ⟨C, 1, none⟩ ⟨C, 0, none⟩ _ (by simp)
  · exact World.cell?_setCell_same w' _ _ h.next
  · rw [← h.frz]
    simp

theorem Moved.cell {C : Nat} {w w' : World} {i : Nat} (h : Moved C w w' i) {a : Addr} (ha : a.block ≠ C) : w'.cell? a = w.cell? a :=
  World.cell?_of_block (w := w) (h.block a.block ha)

theorem Moved.frozen {C : Nat} {w w' : World} {i : Nat} (h : Moved C w w' i) {a : Addr} (ha : a.block ≠ C) : w'.frozen? a = w.frozen? a :=
  World.frozen?_of_block (w := w) (h.block a.block ha)

theorem Moved.below {C B : Nat} {w w' : World} {i : Nat} (h : Moved C w w' i) (hB : B ≤ C) : Below B w w' :=
  ⟨h.os, h.tape, h.output, by rw [h.size]; exact Nat.le_refl _, fun k hk => h.block k (by omega)⟩

/-- The walker at C reads the slice (a, n, c) and stands at i. -/
structure At (w : World) (C : Nat) (a : Option Addr) (n c i : Nat) : Prop where
  data : w.cell? ⟨C, 0, none⟩ = some (.slice a n c)
  next : w.cell? ⟨C, 1, none⟩ = some (.int .i64 i)
  frz : w.frozen? ⟨C, 1, none⟩ = false

theorem At.moved {w w' : World} {C : Nat} {a : Option Addr} {n c i j : Nat} (h : At w C a n c i) (m : Moved C w w' j) : At w' C a n c j :=
  ⟨m.data.trans h.data, m.next, m.frz.trans h.frz⟩

set_option maxHeartbeats 1000000 in
theorem skip_yes (C b off n c i : Nat) (ch : Int) (w : World) (h : At w C (some ⟨b, off, none⟩) n c i) (hn : n ≤ 10000000) (hi : i < n)
    (ht : w.cell? ⟨b, off + i, none⟩ = some (.int .u8 ch)) :
    Calls Try.prog 14 #[.pointer (some ⟨C, 0, none⟩), .int .u8 ch] w fun e w' => e = .returned (.bool true) ∧ Moved C w w' (i + 1) := by
  obtain ⟨hd, hx, hf⟩ := h
  have M : Aside (Moved C w w i) := Moved.refl hx
  go_enter Try.func14, Try.ntmps14
  go_wp2
  go_quiet (fail)
  go_wp2
  go_ret
  exact ⟨rfl, (M.out.set (i + 1)).drewN _⟩

set_option maxHeartbeats 1000000 in
theorem skip_other (C b off n c i : Nat) (ch x : Int) (w : World) (h : At w C (some ⟨b, off, none⟩) n c i) (hn : n ≤ 10000000) (hi : i < n)
    (ht : w.cell? ⟨b, off + i, none⟩ = some (.int .u8 x)) (hne : x ≠ ch) :
    Calls Try.prog 14 #[.pointer (some ⟨C, 0, none⟩), .int .u8 ch] w fun e w' => e = .returned (.bool false) ∧ Moved C w w' i := by
  obtain ⟨hd, hx, hf⟩ := h
  have M : Aside (Moved C w w i) := Moved.refl hx
  have hb : (x == ch) = false := beq_eq_false_iff_ne.2 hne
  go_enter Try.func14, Try.ntmps14
  go_wp2
  go_quiet (fail)
  go_wp2
  go_ret
  exact ⟨rfl, M.out.drewN _⟩

set_option maxHeartbeats 1000000 in
theorem skip_end (C n c i : Nat) (a : Option Addr) (ch : Int) (w : World) (h : At w C a n c i) (hn : n ≤ 10000000) (hi : n ≤ i) :
    Calls Try.prog 14 #[.pointer (some ⟨C, 0, none⟩), .int .u8 ch] w fun e w' => e = .returned (.bool false) ∧ Moved C w w' i := by
  obtain ⟨hd, hx, hf⟩ := h
  have M : Aside (Moved C w w i) := Moved.refl hx
  have hb : decide (i < n) = false := decide_eq_false (by omega)
  go_enter Try.func14, Try.ntmps14
  go_wp2
  go_quiet (fail)
  go_wp2
  go_ret
  exact ⟨rfl, M.out.drewN _⟩

/-- The text: n bytes, told by t, at (b, off). -/
structure Text (w : World) (b off n : Nat) (t : Nat → Int) : Prop where
  cells : ∀ j, j < n → w.cell? ⟨b, off + j, none⟩ = some (.int .u8 (t j))

theorem Text.moved {w w' : World} {b off n C i : Nat} {t : Nat → Int} (h : Text w b off n t) (m : Moved C w w' i) (hb : b ≠ C) : Text w' b off n t :=
  ⟨fun j hj => (m.cell (a := ⟨b, off + j, none⟩) hb).trans (h.cells j hj)⟩

/-- skip, both ways. -/
theorem skip_at (C b off n c i : Nat) (ch : Int) (t : Nat → Int) (w : World) (h : At w C (some ⟨b, off, none⟩) n c i) (T : Text w b off n t) (hn : n ≤ 10000000) (r : Bool) (hr : r = decide (i < n ∧ t i = ch)) :
    Calls Try.prog 14 #[.pointer (some ⟨C, 0, none⟩), .int .u8 ch] w fun e w' => e = .returned (.bool r) ∧ Moved C w w' (if r then i + 1 else i) := by
  by_cases hi : i < n
  · by_cases hc : t i = ch
    · subst hc
      rw [decide_eq_true (show i < n ∧ t i = t i from ⟨hi, rfl⟩)] at hr
      subst hr
      exact skip_yes C b off n c i (t i) w h hn hi (T.cells i hi)
    · rw [decide_eq_false (fun hh => hc hh.2)] at hr
      subst hr
      exact skip_other C b off n c i ch (t i) w h hn hi (T.cells i hi) hc
  · rw [decide_eq_false (fun hh => hi hh.1)] at hr
    subst hr
    exact skip_end C n c i _ ch w h hn (by omega)

/-- From i on the digits reach up to j. -/
structure DigRun (t : Nat → Int) (n i j : Nat) : Prop where
  le : i ≤ j
  hn : j ≤ n
  dig : ∀ k, i ≤ k → k < j → 48 ≤ t k ∧ t k ≤ 57
  stop : j < n → ¬ (48 ≤ t j ∧ t j ≤ 57)

set_option maxHeartbeats 1000000 in
theorem digits_end (C n c i : Nat) (a : Option Addr) (w : World) (h : At w C a n c i) (hn : n ≤ 10000000) (hi : n ≤ i) (hi2 : i ≤ 10000000) :
    Calls Try.prog 15 #[.pointer (some ⟨C, 0, none⟩)] w fun e w' => e = .returned (.int .i64 0) ∧ Moved C w w' i := by
  obtain ⟨hd, hx, hf⟩ := h
  have M : Aside (Moved C w w i) := Moved.refl hx
  have hb : decide (i < n) = false := decide_eq_false (by omega)
  go_enter Try.func15, Try.ntmps15
  go_wp2
  refine wp_loop_rounds 1 ?_
  rw [rounds_succ]
  go_wp2
  go_quiet (fail)
  go_wp2
  go_ret
  exact ⟨by simp, M.out.drewN _⟩

set_option maxHeartbeats 4000000 in
theorem digits_at (C b off n c i j : Nat) (t : Nat → Int) (w : World) (h : At w C (some ⟨b, off, none⟩) n c i) (T : Text w b off n t) (hn : n ≤ 10000000) (hbC : b ≠ C) (hr : DigRun t n i j) :
    Calls Try.prog 15 #[.pointer (some ⟨C, 0, none⟩)] w fun e w' => e = .returned (.int .i64 ((j : Int) - (i : Int))) ∧ Moved C w w' j := by
  have H : Aside (At w C (some ⟨b, off, none⟩) n c i ∧ Text w b off n t ∧ DigRun t n i j) := ⟨h, T, hr⟩
  have hle := hr.le
  have hjn := hr.hn
  obtain ⟨hd, hx, hf⟩ := h
  clear hr T
  go_enter Try.func15, Try.ntmps15
  go_wp2
  clear hd hx hf
  go_loopg [] (j + 1) (fun g wr => ∃ k : Nat, i ≤ k ∧ k ≤ j ∧ j + 1 - k ≤ g ∧ Moved C w wr k)
  case atStart => exact ⟨i, Nat.le_refl _, hle, by omega, Moved.refl H.out.1.next⟩
  case round =>
    obtain ⟨k, hik, hkj, hg, hm⟩ := hrel
    have M : Aside (Moved C w wr k) := hm
    obtain ⟨hd, hx, hf⟩ := H.out.1.moved hm
    have T := H.out.2.1.moved hm hbC
    clear hm
    by_cases hlt : k < j
    · have hkn : k < n := by omega
      have ct := T.cells k hkn
      obtain ⟨d1, d2⟩ := H.out.2.2.dig k hik hlt
      clear T
      generalize t k = y at *
      go_wp2
      go_quiet (fail)
      go_wp2
      go_roundg (j + 1 - (k + 1))
      case measure => omega
      case rel => exact ⟨k + 1, by omega, by omega, by omega, (M.out.drewN _).set (k + 1)⟩
    · have e : k = j := by omega
      subst e
      by_cases hkn : k < n
      · have ct := T.cells k hkn
        have hst := H.out.2.2.stop hkn
        clear T
        generalize t k = y at *
        by_cases h48 : 48 ≤ y
        · have h57 : decide (y ≤ 57) = false := decide_eq_false (by omega)
          go_wp2
          go_quiet (fail)
          go_wp2
          go_ret
          exact ⟨by simp, M.out.drewN _⟩
        · have h57 : decide (48 ≤ y) = false := decide_eq_false (by omega)
          go_wp2
          go_quiet (fail)
          go_wp2
          go_ret
          exact ⟨by simp, M.out.drewN _⟩
      · clear T
        have hb : decide (k < n) = false := decide_eq_false (by omega)
        go_wp2
        go_quiet (fail)
        go_wp2
        go_ret
        exact ⟨by simp, M.out.drewN _⟩

end Go.Proofs.Qxb6629257a.W
