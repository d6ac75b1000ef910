import Derived.Test.Qxb6629184aWalksC
namespace Go.Proofs.Qxb6629184a.W
open Go.RowKit

set_option maxHeartbeats 400000 in
theorem lawA_big (a : Option Addr) (len cap : Nat) (d : Int) (w : World) (h : 65536 < len) :
    Calls Try.prog 3 #[.slice a len cap, .int .i32 d] w fun e w' => e = .returned (.bool true) ∧ Below w.heap.size w w' := by
  by_cases h2 : len ≤ 1048576
  · go_enter Try.func3, Try.ntmps3
    go_wp2_with (go_at_call 5; refine (bytes_le _ _ _ _ _ h2).mono ?_; rintro e w' ⟨rfl, rfl⟩)
    go_ret
    exact ⟨rfl, Below.refl _ _⟩
  · go_enter Try.func3, Try.ntmps3
    go_wp2_with (go_at_call 5; refine (bytes_gt _ _ _ _ _ (by omega)).mono ?_; rintro e w' ⟨rfl, rfl⟩)
    go_ret
    exact ⟨rfl, Below.refl _ _⟩

set_option maxHeartbeats 1000000 in
theorem lawA_nil (d : Int) (w : World) :
    Calls Try.prog 3 #[.slice none 0 0, .int .i32 d] w fun e w' => e = .returned (.bool true) ∧ Below w.heap.size w w' := by
  go_enter Try.func3, Try.ntmps3
  go_wp2_with (first | (go_at_call 5; refine (bytes_le _ _ _ _ _ (by omega)).mono ?_; rintro e w' ⟨rfl, rfl⟩) | (go_at_call 6; refine (asc_none _ _ _).mono ?_; rintro e w' ⟨rfl, rfl⟩) | (go_at_call 8; refine (toDates_nil _).mono ?_; rintro e w' ⟨rfl, rfl⟩) | (go_at_call 7; refine (newCal _ _ ⟨_, _, _, rfl⟩).mono ?_; rintro e w' ⟨rfl, rfl⟩))
  refine wp_loop_rounds 1 ?_
  rw [rounds_succ]
  go_wp2
  refine wp_loop_rounds 1 ?_
  rw [rounds_succ]
  go_wp2_with (go_at_call 9; refine (next_empty _ none 0 _ _ (by simp)).mono ?_; rintro e w' ⟨rfl, q, rfl⟩)
  go_ret
  exact ⟨rfl, below_drewN ((Below.refl _ _).alloc (Nat.le_refl _) _) _⟩

set_option maxHeartbeats 1000000 in
theorem lawA_zero (x : Addr) (cap : Nat) (d : Int) (w : World) :
    Calls Try.prog 3 #[.slice (some x) 0 cap, .int .i32 d] w fun e w' => e = .returned (.bool true) ∧ Below w.heap.size w w' := by
  go_enter Try.func3, Try.ntmps3
  go_wp2_with (first | (go_at_call 5; refine (bytes_le _ _ _ _ _ (by omega)).mono ?_; rintro e w' ⟨rfl, rfl⟩) | (go_at_call 6; refine (asc_none _ _ _).mono ?_; rintro e w' ⟨rfl, rfl⟩) | (go_at_call 8; refine (toDates_zero _ _ (fun _ => 0) _).mono ?_; rintro e w1 ⟨rfl, hrow, hbel, hsz⟩; have R : Aside (Below w.heap.size w w1 ∧ w1.heap.size = w.heap.size + 1) := ⟨hbel, hsz⟩; clear hrow hbel hsz) | (go_at_call 7; refine (newCal _ _ ⟨_, _, _, rfl⟩).mono ?_; rintro e w' ⟨rfl, rfl⟩))
  refine wp_loop_rounds 1 ?_
  rw [rounds_succ]
  go_wp2
  refine wp_loop_rounds 1 ?_
  rw [rounds_succ]
  go_wp2_with (go_at_call 9; refine (next_empty _ (some ⟨w.heap.size, 0, none⟩) 0 _ _ (by simp)).mono ?_; rintro e w' ⟨rfl, q, rfl⟩)
  go_ret
  exact ⟨rfl, below_drewN (R.out.1.alloc (by have := R.out.2; omega) _) _⟩

set_option maxHeartbeats 2000000 in
theorem lawA_pos (b off n cap : Nat) (f : Nat → Int) (d : Int) (w : World) (hn : 0 < n) (hm : n ≤ 65536) (hb : b < w.heap.size)
    (hc : ∀ j, j < n → w.cell? ⟨b, off + j, none⟩ = some (.int .i32 (f j))) :
    Calls Try.prog 3 #[.slice (some ⟨b, off, none⟩) n cap, .int .i32 d] w fun e w' => e = .returned (.bool true) ∧ Below w.heap.size w w' := by
  go_enter Try.func3, Try.ntmps3
  go_wp2_with (go_at_call 5; refine (bytes_le _ _ _ _ _ (by omega)).mono ?_; rintro e w' ⟨rfl, rfl⟩)
  refine (asc_any b off n cap f _ hn hm hc).mono ?_
  rintro e w' ⟨⟨r, rfl, hr⟩, q, rfl⟩
  cases r with
  | false =>
    clear hr hc
    go_wp2
    go_ret
    exact ⟨rfl, below_drewN (Below.refl _ _) _⟩
  | true =>
    have A : Aside (Asc f n) := asc_of f n (hr rfl)
    clear hr
    go_wp2_with fail
    refine (toDates_pos b off n cap f (w.drewN q) hn (by omega) hb hc).mono ?_
    rintro e w1 ⟨rfl, hrow, hbel, hsz⟩
    have R : Aside (w1.rowIs w.heap.size 29 n (fun j => .int .i32 (f j)) ∧ Below w.heap.size w w1 ∧ w1.heap.size = w.heap.size + 1) := ⟨hrow, (below_drewN (Below.refl _ _) q).trans hbel, hsz⟩
    clear hrow hbel hsz
    go_wp2_with (go_at_call 7; refine (newCal _ _ ⟨_, _, _, rfl⟩).mono ?_; rintro e w' ⟨rfl, rfl⟩)
    have hcal : (w1.alloc (.cells #[.slice (some ⟨w.heap.size, 0, none⟩) n n] 34)).cell? ⟨w1.heap.size, 0, none⟩ = some (.slice (some ⟨w.heap.size, 0, none⟩) n n) := by simp
    have hb1 : Aside (Below w.heap.size w (w1.alloc (.cells #[.slice (some ⟨w.heap.size, 0, none⟩) n n] 34))) := R.out.2.1.alloc (by have := R.out.2.2; omega) _
    have hrow1 : Aside ((w1.alloc (.cells #[.slice (some ⟨w.heap.size, 0, none⟩) n n] 34)).rowIs w.heap.size 29 n (fun j => .int .i32 (f j))) := R.out.1.alloc _
    generalize w1.alloc (.cells #[.slice (some ⟨w.heap.size, 0, none⟩) n n] 34) = W at *
    generalize w1.heap.size = C at *
    clear R
    have hc' : ∀ j, j < n → W.cell? ⟨b, off + j, none⟩ = some (.int .i32 (f j)) := fun j hj => (hb1.out.cell hb).trans (hc j hj)
    clear hc
    go_loopg [6] n (fun g s wr => ∃ k : Nat, s = .int .i64 k ∧ k ≤ n ∧ n - k ≤ g ∧ W = wr ∧ ∀ t, t < k → f t ≤ d)
    case atStart => exact ⟨0, rfl, Nat.zero_le _, by omega, rfl, fun t ht => absurd ht (Nat.not_lt_zero _)⟩
    case round =>
      obtain ⟨k, rfl, hk, hg, rfl, hlo⟩ := hrel
      have L : Aside (∀ t, t < k → f t ≤ d) := hlo
      clear hlo
      by_cases hcnd : k < n ∧ f k ≤ d
      · obtain ⟨hlt, hfd⟩ := hcnd
        have c0 := hc' k hlt
        clear hc'
        go_wp2
        go_roundg (n - (k + 1))
        case measure => omega
        case rel =>
          refine ⟨k + 1, by go_num, by omega, by omega, rfl, fun t ht => ?_⟩
          by_cases e : t = k
          · subst e; exact hfd
          · exact L.out t (by omega)
      · have P : Aside (PartsAt f n d k) := by
          refine ⟨hk, L.out, fun t h1 h2 => ?_⟩
          have hfk : d < f k := by
            apply Classical.byContradiction
            intro hh
            exact hcnd ⟨by omega, by omega⟩
          by_cases e : t = k
          · subst e; exact hfk
          · have := A.out k t (by omega) h2
            omega
        clear L
        have hstop : k < n → d < f k := fun h => P.out.hi k (Nat.le_refl _) h
        by_cases hlt : k < n
        · have c0 := hc' k hlt
          have hfk := hstop hlt
          clear hstop hcnd
          go_wp2
          go_loopg [7, 8] n (fun g s7 s8 wr => ∃ (cur : Int) (k q : Nat), s7 = .int .i32 cur ∧ s8 = .int .i64 k ∧ PartsAt f n cur k ∧ n - k ≤ g ∧ W.drewN q = wr)
          case atStart => exact ⟨d, k, 0, rfl, rfl, P.out, by omega, rfl⟩
          case round =>
            obtain ⟨cur, k, q, rfl, rfl, hp, hg, rfl⟩ := hrel
            have P : Aside (PartsAt f n cur k) := hp
            have hk := hp.le
            clear hp
            by_cases hlt : k < n
            · have c0 := hc' k hlt
              clear hc'
              go_wp2_with (go_at_call 9; refine (next_some C w.heap.size 0 n n k f cur _ (by omega) (by exact hcal) (fun j hj => by rw [Nat.zero_add]; exact hrow1.out.cell hj) A.out P.out hlt).mono ?_; rintro e w' ⟨rfl, q, rfl⟩)
              go_roundg (n - (k + 1))
              case measure => omega
              case rel =>
                refine ⟨f k, k + 1, _, rfl, by go_num, ⟨by omega, fun t ht => ?_, fun t h1 h2 => A.out k t (by omega) h2⟩, by omega, rfl⟩
                by_cases e : t = k
                · subst e; exact Int.le_refl _
                · have := A.out t k (by omega) hlt
                  omega
            · have e : k = n := by omega
              subst e
              clear hc'
              go_wp2_with (go_at_call 9; refine (next_last C w.heap.size 0 k k f cur _ (by omega) (by exact hcal) (fun j hj => by rw [Nat.zero_add]; exact hrow1.out.cell hj) A.out P.out).mono ?_; rintro e w' ⟨rfl, q, rfl⟩)
              go_ret
              exact ⟨rfl, below_drewN hb1.out _⟩
        · clear hstop hcnd
          go_wp2
          go_loopg [7, 8] n (fun g s7 s8 wr => ∃ (cur : Int) (k q : Nat), s7 = .int .i32 cur ∧ s8 = .int .i64 k ∧ PartsAt f n cur k ∧ n - k ≤ g ∧ W.drewN q = wr)
          case atStart => exact ⟨d, k, 0, rfl, rfl, P.out, by omega, rfl⟩
          case round =>
            obtain ⟨cur, k, q, rfl, rfl, hp, hg, rfl⟩ := hrel
            have P : Aside (PartsAt f n cur k) := hp
            have hk := hp.le
            clear hp
            by_cases hlt : k < n
            · have c0 := hc' k hlt
              clear hc'
              go_wp2_with (go_at_call 9; refine (next_some C w.heap.size 0 n n k f cur _ (by omega) (by exact hcal) (fun j hj => by rw [Nat.zero_add]; exact hrow1.out.cell hj) A.out P.out hlt).mono ?_; rintro e w' ⟨rfl, q, rfl⟩)
              go_roundg (n - (k + 1))
              case measure => omega
              case rel =>
                refine ⟨f k, k + 1, _, rfl, by go_num, ⟨by omega, fun t ht => ?_, fun t h1 h2 => A.out k t (by omega) h2⟩, by omega, rfl⟩
                by_cases e : t = k
                · subst e; exact Int.le_refl _
                · have := A.out t k (by omega) hlt
                  omega
            · have e : k = n := by omega
              subst e
              clear hc'
              go_wp2_with (go_at_call 9; refine (next_last C w.heap.size 0 k k f cur _ (by omega) (by exact hcal) (fun j hj => by rw [Nat.zero_add]; exact hrow1.out.cell hj) A.out P.out).mono ?_; rintro e w' ⟨rfl, q, rfl⟩)
              go_ret
              exact ⟨rfl, below_drewN hb1.out _⟩

end Go.Proofs.Qxb6629184a.W
