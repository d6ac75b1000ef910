import Derived.Test.Qxb6629367aWalksB
namespace Go.Proofs.Qxb6629367a.W
open Go.RowKit
set_option linter.unusedVariables false
set_option maxRecDepth 100000

def YPost (w : World) (e : Ending) (w' : World) : Prop := (∃ r, e = .returned (.bool r)) ∧ Below w.heap.size w w'
theorem YPost.mk' {w w' : World} {e : Ending} {r : Bool} (h : e = .returned (.bool r)) (hb : Below w.heap.size w w') : YPost w e w' := ⟨⟨r, h⟩, hb⟩

set_option maxHeartbeats 2000000 in
theorem zz14_at (name : ByteArray) (a b : Option Addr) (na ca nb cb : Nat) (le : Int) (se : ByteArray) (pe : Bool) (A1 : Nat → Int) (S1 : Nat → ByteArray) (P1 : Nat → Bool) (A2 : Nat → Int) (S2 : Nat → ByteArray) (P2 : Nat → Bool) (w : World) (R1 : FRow w a na A1 S1 P1) (R2 : FRow w b nb A2 S2 P2) :
    Calls Try.prog 14 #[.string name, .slice a na ca, .agg #[.int .i64 le, .string se, .bool pe], .slice b nb cb] w (YPost w) := by
  have RR : Aside (FRow w a na A1 S1 P1 ∧ FRow w b nb A2 S2 P2) := ⟨R1, R2⟩
  clear R1 R2
  by_cases h0 : name.size ≤ 1048576
  · have hb0 : decide (1048576 < (name.size : Int)) = false := decide_eq_false (by omega)
    by_cases h1 : na ≤ 1048576
    · have hb1 : decide (1048576 < (na : Int)) = false := decide_eq_false (by omega)
      by_cases h2 : name.size + na ≤ 1048576
      · have hb2 : decide (1048576 < (name.size : Int) + (na : Int)) = false := decide_eq_false (by omega)
        go_enter Try.func14, Try.ntmps14
        go_wp2
        clear hb0 hb1 hb2
        obtain ⟨W, HW⟩ : ∃ W, Aside (w.alloc (.cells #[.int .i64 le, .string se, .bool pe] 26) = W) := ⟨_, rfl⟩
        have BW : Aside ((FRow W a na A1 S1 P1 ∧ FRow W b nb A2 S2 P2) ∧ Below w.heap.size w W) := by
          rw [← HW.out]
          exact ⟨⟨RR.out.1.later ((Below.refl _ _).alloc (Nat.le_refl _) _), RR.out.2.later ((Below.refl _ _).alloc (Nat.le_refl _) _)⟩, ((Below.refl _ _).alloc (Nat.le_refl _) _)⟩
        have bx : W.cell? ⟨w.heap.size, 1, none⟩ = some (.string se) := by rw [← HW.out]; simp
        rw [HW.out]
        clear HW RR
        go_loopg [9, 10] na (fun g s0 s wr => ∃ (t : Int) (k : Nat), s0 = .int .i64 t ∧ s = .int .i64 k ∧ 0 ≤ t ∧ t ≤ 1048576 ∧ k ≤ na ∧ na - k ≤ g ∧ W = wr)
        case atStart => exact ⟨_, 0, rfl, rfl, by omega, by omega, Nat.zero_le _, by omega, rfl⟩
        case round =>
          obtain ⟨t, k, rfl, rfl, ht0, ht1, hk, hg, rfl⟩ := hrel
          by_cases hlt : k < na
          · obtain ⟨bb, off, rfl, hbl, c1, c2, c3⟩ := BW.out.1.1.addr (by omega)
            have d2 := c2 k hlt
            clear c1 c2 c3
            generalize S1 k = s at d2
            by_cases hs : s.size ≤ 1048576
            · have hs1 : decide (1048576 < (s.size : Int)) = false := decide_eq_false (by omega)
              by_cases hs2 : t + s.size ≤ 1048576
              · have hs3 : decide (1048576 < t + (s.size : Int)) = false := decide_eq_false (by omega)
                go_wp2
                go_roundg (na - (k + 1))
                case measure => omega
                case rel => exact ⟨_, k + 1, rfl, by go_num, by omega, by omega, by omega, by omega, rfl⟩
              · have hs3 : decide (1048576 < t + (s.size : Int)) = true := decide_eq_true (by omega)
                go_wp2
                go_ret
                exact YPost.mk' rfl BW.out.2
            · have hs1 : decide (1048576 < (s.size : Int)) = true := decide_eq_true (by omega)
              go_wp2
              go_ret
              exact YPost.mk' rfl BW.out.2
          · have e : k = na := by omega
            subst e
            by_cases h3 : se.size ≤ 1048576
            · have hb3 : decide (1048576 < (se.size : Int)) = false := decide_eq_false (by omega)
              by_cases h4 : t + se.size ≤ 1048576
              · have hb4 : decide (1048576 < t + (se.size : Int)) = false := decide_eq_false (by omega)
                by_cases h5 : nb ≤ 1048576
                · have hb5 : decide (1048576 < (nb : Int)) = false := decide_eq_false (by omega)
                  by_cases h6 : t + se.size + nb ≤ 1048576
                  · have hb6 : decide (1048576 < t + (se.size : Int) + (nb : Int)) = false := decide_eq_false (by omega)
                    go_wp2
                    clear hb3 hb4 hb5 hb6
                    go_loopg [9, 11] nb (fun g s0 s wr => ∃ (t : Int) (k : Nat), s0 = .int .i64 t ∧ s = .int .i64 k ∧ 0 ≤ t ∧ t ≤ 1048576 ∧ k ≤ nb ∧ nb - k ≤ g ∧ W = wr)
                    case atStart => exact ⟨_, 0, rfl, rfl, by omega, by omega, Nat.zero_le _, by omega, rfl⟩
                    case round =>
                      obtain ⟨t2, k, rfl, rfl, ht0, ht1, hk, hg, rfl⟩ := hrel
                      by_cases hlt : k < nb
                      · obtain ⟨bb, off, rfl, hbl, c1, c2, c3⟩ := BW.out.1.2.addr (by omega)
                        have d2 := c2 k hlt
                        clear c1 c2 c3
                        generalize S2 k = s at d2
                        by_cases hs : s.size ≤ 1048576
                        · have hs1 : decide (1048576 < (s.size : Int)) = false := decide_eq_false (by omega)
                          by_cases hs2 : t2 + s.size ≤ 1048576
                          · have hs3 : decide (1048576 < t2 + (s.size : Int)) = false := decide_eq_false (by omega)
                            go_wp2
                            go_roundg (nb - (k + 1))
                            case measure => omega
                            case rel => exact ⟨_, k + 1, rfl, by go_num, by omega, by omega, by omega, by omega, rfl⟩
                          · have hs3 : decide (1048576 < t2 + (s.size : Int)) = true := decide_eq_true (by omega)
                            go_wp2
                            go_ret
                            exact YPost.mk' rfl BW.out.2
                        · have hs1 : decide (1048576 < (s.size : Int)) = true := decide_eq_true (by omega)
                          go_wp2
                          go_ret
                          exact YPost.mk' rfl BW.out.2
                      · have e : k = nb := by omega
                        subst e
                        go_wp2
                        go_ret
                        exact YPost.mk' rfl BW.out.2
                  · have hb6 : decide (1048576 < t + (se.size : Int) + (nb : Int)) = true := decide_eq_true (by omega)
                    go_wp2
                    go_ret
                    exact YPost.mk' rfl BW.out.2
                · have hb5 : decide (1048576 < (nb : Int)) = true := decide_eq_true (by omega)
                  go_wp2
                  go_ret
                  exact YPost.mk' rfl BW.out.2
              · have hb4 : decide (1048576 < t + (se.size : Int)) = true := decide_eq_true (by omega)
                go_wp2
                go_ret
                exact YPost.mk' rfl BW.out.2
            · have hb3 : decide (1048576 < (se.size : Int)) = true := decide_eq_true (by omega)
              go_wp2
              go_ret
              exact YPost.mk' rfl BW.out.2
      · have hb2 : decide (1048576 < (name.size : Int) + (na : Int)) = true := decide_eq_true (by omega)
        go_enter Try.func14, Try.ntmps14
        go_wp2
        go_ret
        exact YPost.mk' rfl ((Below.refl _ _).alloc (Nat.le_refl _) _)
    · have hb1 : decide (1048576 < (na : Int)) = true := decide_eq_true (by omega)
      go_enter Try.func14, Try.ntmps14
      go_wp2
      go_ret
      exact YPost.mk' rfl ((Below.refl _ _).alloc (Nat.le_refl _) _)
  · have hb0 : decide (1048576 < (name.size : Int)) = true := decide_eq_true (by omega)
    go_enter Try.func14, Try.ntmps14
    go_wp2
    go_ret
    exact YPost.mk' rfl ((Below.refl _ _).alloc (Nat.le_refl _) _)

end Go.Proofs.Qxb6629367a.W
