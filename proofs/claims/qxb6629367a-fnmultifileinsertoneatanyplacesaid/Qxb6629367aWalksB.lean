import Derived.Test.Qxb6629367aWalksA
namespace Go.Proofs.Qxb6629367a.W
open Go.RowKit
set_option linter.unusedVariables false
set_option maxRecDepth 100000

set_option maxHeartbeats 2000000 in
theorem zz5_at (name : ByteArray) (a b : Option Addr) (na ca nb cb : Nat) (A1 : Nat → Int) (S1 : Nat → ByteArray) (P1 : Nat → Bool) (A2 : Nat → Int) (S2 : Nat → ByteArray) (P2 : Nat → Bool) (w : World) (R1 : FRow w a na A1 S1 P1) (R2 : FRow w b nb A2 S2 P2) :
    Calls Try.prog 5 #[.string name, .slice a na ca, .slice b nb cb] w (ZPost w) := by
  have RR : Aside (FRow w a na A1 S1 P1 ∧ FRow w b nb A2 S2 P2) := ⟨R1, R2⟩
  clear R1 R2
  by_cases h0 : name.size ≤ 1048576
  · have hb0 : decide (1048576 < (name.size : Int)) = false := decide_eq_false (by omega)
    by_cases h1 : na ≤ 1048576
    · have hb1 : decide (1048576 < (na : Int)) = false := decide_eq_false (by omega)
      by_cases h2 : name.size + na ≤ 1048576
      · have hb2 : decide (1048576 < (name.size : Int) + (na : Int)) = false := decide_eq_false (by omega)
        go_enter Try.func5, Try.ntmps5
        go_wp2
        clear hb0 hb1 hb2
        go_loopg [7, 8] na (fun g s0 s wr => ∃ (t : Int) (k : Nat), s0 = .int .i64 t ∧ s = .int .i64 k ∧ 0 ≤ t ∧ t ≤ 1048576 ∧ k ≤ na ∧ na - k ≤ g ∧ w = wr)
        case atStart => exact ⟨_, 0, rfl, rfl, by omega, by omega, Nat.zero_le _, by omega, rfl⟩
        case round =>
          obtain ⟨t, k, rfl, rfl, ht0, ht1, hk, hg, rfl⟩ := hrel
          by_cases hlt : k < na
          · obtain ⟨bb, off, rfl, hbl, c1, c2, c3⟩ := RR.out.1.addr (by omega)
            have d2 := c2 k hlt
            clear c1 c2 c3
            generalize S1 k = s at d2
            by_cases hs : s.size ≤ 1048576
            · have hs1 : decide (1048576 < (s.size : Int)) = false := decide_eq_false (by omega)
              by_cases hs2 : t + s.size ≤ 1048576
              · have hs3 : decide (1048576 < t + (s.size : Int)) = false := decide_eq_false (by omega)
                go_wp2
                go_roundg (na - (k + 1))
                case measure => omega
                case rel => exact ⟨_, k + 1, rfl, by go_num, by omega, by omega, by omega, by omega, rfl⟩
              · have hs3 : decide (1048576 < t + (s.size : Int)) = true := decide_eq_true (by omega)
                go_wp2
                go_ret
                exact ZPost.mk' rfl
            · have hs1 : decide (1048576 < (s.size : Int)) = true := decide_eq_true (by omega)
              go_wp2
              go_ret
              exact ZPost.mk' rfl
          · have e : k = na := by omega
            subst e
            by_cases h3 : nb ≤ 1048576
            · have hb3 : decide (1048576 < (nb : Int)) = false := decide_eq_false (by omega)
              by_cases h4 : t + nb ≤ 1048576
              · have hb4 : decide (1048576 < t + (nb : Int)) = false := decide_eq_false (by omega)
                go_wp2
                clear hb3
                clear hb4
                go_loopg [7, 9] nb (fun g s0 s wr => ∃ (t : Int) (k : Nat), s0 = .int .i64 t ∧ s = .int .i64 k ∧ 0 ≤ t ∧ t ≤ 1048576 ∧ k ≤ nb ∧ nb - k ≤ g ∧ w = wr)
                case atStart => exact ⟨_, 0, rfl, rfl, by omega, by omega, Nat.zero_le _, by omega, rfl⟩
                case round =>
                  obtain ⟨t2, k, rfl, rfl, ht0, ht1, hk, hg, rfl⟩ := hrel
                  by_cases hlt : k < nb
                  · obtain ⟨bb, off, rfl, hbl, c1, c2, c3⟩ := RR.out.2.addr (by omega)
                    have d2 := c2 k hlt
                    clear c1 c2 c3
                    generalize S2 k = s at d2
                    by_cases hs : s.size ≤ 1048576
                    · have hs1 : decide (1048576 < (s.size : Int)) = false := decide_eq_false (by omega)
                      by_cases hs2 : t2 + s.size ≤ 1048576
                      · have hs3 : decide (1048576 < t2 + (s.size : Int)) = false := decide_eq_false (by omega)
                        go_wp2
                        go_roundg (nb - (k + 1))
                        case measure => omega
                        case rel => exact ⟨_, k + 1, rfl, by go_num, by omega, by omega, by omega, by omega, rfl⟩
                      · have hs3 : decide (1048576 < t2 + (s.size : Int)) = true := decide_eq_true (by omega)
                        go_wp2
                        go_ret
                        exact ZPost.mk' rfl
                    · have hs1 : decide (1048576 < (s.size : Int)) = true := decide_eq_true (by omega)
                      go_wp2
                      go_ret
                      exact ZPost.mk' rfl
                  · have e : k = nb := by omega
                    subst e
                    go_wp2
                    go_ret
                    exact ZPost.mk' rfl
              · have hb4 : decide (1048576 < t + (nb : Int)) = true := decide_eq_true (by omega)
                go_wp2
                go_ret
                exact ZPost.mk' rfl
            · have hb3 : decide (1048576 < (nb : Int)) = true := decide_eq_true (by omega)
              go_wp2
              go_ret
              exact ZPost.mk' rfl
      · have hb2 : decide (1048576 < (name.size : Int) + (na : Int)) = true := decide_eq_true (by omega)
        go_enter Try.func5, Try.ntmps5
        go_wp2
        go_ret
        exact ZPost.mk' rfl
    · have hb1 : decide (1048576 < (na : Int)) = true := decide_eq_true (by omega)
      go_enter Try.func5, Try.ntmps5
      go_wp2
      go_ret
      exact ZPost.mk' rfl
  · have hb0 : decide (1048576 < (name.size : Int)) = true := decide_eq_true (by omega)
    go_enter Try.func5, Try.ntmps5
    go_wp2
    go_ret
    exact ZPost.mk' rfl

end Go.Proofs.Qxb6629367a.W
