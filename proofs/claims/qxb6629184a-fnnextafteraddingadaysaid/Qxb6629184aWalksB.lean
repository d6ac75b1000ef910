import Derived.Test.Qxb6629184aWalksA
namespace Go.Proofs.Qxb6629184a.W
open Go.RowKit

theorem nan14 (x : Int) (w : World) : Calls Try.prog 14 #[.int .i32 x] w fun e w' => e = .returned (.bool false) ∧ w = w' := by
  go_enter Try.func14, Try.ntmps14
  go_wp2
  go_ret
  exact ⟨by simp, rfl⟩

theorem nan13 (x : Int) (w : World) : Calls Try.prog 13 #[.int .i32 x] w fun e w' => e = .returned (.bool false) ∧ w = w' := by
  go_enter Try.func13, Try.ntmps13
  go_wp2
  go_ret
  exact ⟨by simp, rfl⟩

set_option maxHeartbeats 400000 in
theorem less12 (x y : Int) (w : World) : Calls Try.prog 12 #[.int .i32 x, .int .i32 y] w fun e w' => e = .returned (.bool (decide (x < y))) ∧ w = w' := by
  go_enter Try.func12, Try.ntmps12
  go_wp2_with (go_at_call 14; refine (nan14 _ _).mono ?_; rintro e w' ⟨rfl, rfl⟩)
  go_ret
  exact ⟨rfl, rfl⟩

set_option maxHeartbeats 2000000 in
theorem search_none (a : Option Addr) (c : Nat) (x : Int) (w : World) :
    Calls Try.prog 11 #[.slice a 0 c, .int .i32 x] w fun e w' => e = .returned (.tuple #[.int .i64 0, .bool false]) ∧ ∃ q, w' = w.drewN q := by
  go_enter Try.func11, Try.ntmps11
  go_wp2
  refine wp_loop_rounds 1 ?_
  rw [rounds_succ]
  go_wp2
  go_ret2
  exact ⟨rfl, 0, rfl⟩

set_option maxHeartbeats 2000000 in
/-- slices.BinarySearch, where p parts the smaller elements from the others. -/
theorem search_at (b off n c p : Nat) (f : Nat → Int) (x : Int) (w : World) (hn : n ≤ 100000) (hp : p ≤ n)
    (hc : ∀ j, j < n → w.cell? ⟨b, off + j, none⟩ = some (.int .i32 (f j)))
    (h1 : ∀ t, t < p → f t < x) (h2 : ∀ t, p ≤ t → t < n → x ≤ f t) :
    Calls Try.prog 11 #[.slice (some ⟨b, off, none⟩) n c, .int .i32 x] w fun e w' => e = .returned (.tuple #[.int .i64 p, .bool (decide (p < n ∧ f p = x))]) ∧ ∃ q, w' = w.drewN q := by
  have S : Aside ((∀ t, t < p → f t < x) ∧ (∀ t, p ≤ t → t < n → x ≤ f t)) := ⟨h1, h2⟩
  clear h1 h2
  go_enter Try.func11, Try.ntmps11
  go_wp2
  go_loopg [7, 8] n (fun g s7 s8 wr => ∃ lo hi q : Nat, s7 = .int .i64 lo ∧ s8 = .int .i64 hi ∧ lo ≤ p ∧ p ≤ hi ∧ hi ≤ n ∧ hi - lo ≤ g ∧ wr = w.drewN q)
  case atStart => exact ⟨0, n, 0, rfl, rfl, Nat.zero_le _, hp, Nat.le_refl _, by omega, rfl⟩
  case round =>
    obtain ⟨lo, hi, q, rfl, rfl, hlp, hph, hin, hg, rfl⟩ := hrel
    by_cases hlt : lo < hi
    · have cm : w.cell? ⟨b, off + (lo + hi) / 2, none⟩ = some (.int .i32 (f ((lo + hi) / 2))) := hc _ (by omega)
      clear hc
      generalize hy : f ((lo + hi) / 2) = y at cm
      have Y : Aside (f ((lo + hi) / 2) = y) := hy
      clear hy
      by_cases hyx : y < x
      · go_wp2_with (first | (go_at_call 12; refine (less12 _ _ _).mono ?_; rintro e w' ⟨rfl, rfl⟩) | (go_at_call 13; refine (nan13 _ _).mono ?_; rintro e w' ⟨rfl, rfl⟩))
        have hmp : (lo + hi) / 2 < p := by
          apply Classical.byContradiction
          intro hcon
          have := S.out.2 ((lo + hi) / 2) (by omega) (by omega)
          rw [Y.out] at this
          omega
        go_roundg (hi - ((lo + hi) / 2 + 1))
        case measure => omega
        case rel => exact ⟨(lo + hi) / 2 + 1, hi, _, by rw [show ((lo : Int) + (hi : Int)) / 2 + 1 = (((lo + hi) / 2 + 1 : Nat) : Int) by omega], rfl, by omega, hph, hin, Nat.le_refl _, rfl⟩
      · go_wp2_with (first | (go_at_call 12; refine (less12 _ _ _).mono ?_; rintro e w' ⟨rfl, rfl⟩) | (go_at_call 13; refine (nan13 _ _).mono ?_; rintro e w' ⟨rfl, rfl⟩))
        have hmp : p ≤ (lo + hi) / 2 := by
          apply Classical.byContradiction
          intro hcon
          have := S.out.1 ((lo + hi) / 2) (by omega)
          rw [Y.out] at this
          omega
        go_roundg ((lo + hi) / 2 - lo)
        case measure => omega
        case rel => exact ⟨lo, (lo + hi) / 2, _, rfl, by rw [show ((lo : Int) + (hi : Int)) / 2 = (((lo + hi) / 2 : Nat) : Int) by omega], hlp, hmp, by omega, Nat.le_refl _, rfl⟩
    · have e1 : lo = p := by omega
      have e2 : hi = p := by omega
      subst e1 e2
      by_cases hn2 : hi < n
      · have cl : w.cell? ⟨b, off + hi, none⟩ = some (.int .i32 (f hi)) := hc _ (by omega)
        clear hc
        generalize hy : f hi = y at cl
        have Y : Aside (f hi = y) := hy
        clear hy
        by_cases hyx : y = x
        · go_wp2_with (first | (go_at_call 12; refine (less12 _ _ _).mono ?_; rintro e w' ⟨rfl, rfl⟩) | (go_at_call 13; refine (nan13 _ _).mono ?_; rintro e w' ⟨rfl, rfl⟩))
          go_ret2
          refine ⟨?_, _, rfl⟩
          rw [Y.out, decide_eq_true (show hi < n ∧ y = x from ⟨hn2, hyx⟩)]
          first | rfl | simp [*]
        · go_wp2_with (first | (go_at_call 12; refine (less12 _ _ _).mono ?_; rintro e w' ⟨rfl, rfl⟩) | (go_at_call 13; refine (nan13 _ _).mono ?_; rintro e w' ⟨rfl, rfl⟩))
          go_ret2
          refine ⟨?_, _, rfl⟩
          rw [Y.out, decide_eq_false (show ¬ (hi < n ∧ y = x) from fun h => hyx h.2)]
          first | rfl | simp [*]
      · clear hc
        go_wp2_with (first | (go_at_call 12; refine (less12 _ _ _).mono ?_; rintro e w' ⟨rfl, rfl⟩) | (go_at_call 13; refine (nan13 _ _).mono ?_; rintro e w' ⟨rfl, rfl⟩))
        go_ret2
        refine ⟨?_, _, rfl⟩
        rw [decide_eq_false (show ¬ (hi < n ∧ f hi = x) from fun h => hn2 h.1)]
        first | rfl | simp [*]

end Go.Proofs.Qxb6629184a.W
