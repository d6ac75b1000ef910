import Derived.Test.Qxb6629257aWalksE
namespace Go.Proofs.Qxb6629257a.W
open Go.RowKit
set_option linter.unusedVariables false
set_option maxRecDepth 100000

def signL (neg : Bool) : List Int := if neg then [45] else []
def midL (S : List Int) (shift : Nat) (zeros : Nat) (extra : Bool) : List Int :=
  if shift = 0 then S ++ (if 0 < zeros ∨ extra = true then [46] else [])
  else if shift < S.length then S.take (S.length - shift) ++ [46] ++ S.drop (S.length - shift)
  else [48, 46] ++ List.replicate (shift - S.length) 48 ++ S
def extraL (extra : Bool) : List Int := if extra then [49] else []
def expL (upper : Bool) : List Int := if upper then [69, 43] else [101]

theorem decR_len : ∀ (f m : Nat) (u : Int), 0 ≤ u → ltPow m u → (decR f u).length ≤ m
  | 0, m, u, _, _ => by simp [decR]
  | f + 1, m, u, h0, h => by
    by_cases hz : u = 0
    · subst hz; rw [decR_zero]; simp
    · rw [decR_step f u hz]
      cases m with
      | zero => have : u < 1 := h
                omega
      | succ m =>
        have := decR_len f m (u / 10) (by omega) h
        simp
        omega

theorem decL_len3 (u : Int) (h0 : 0 ≤ u) (h1 : u ≤ 255) : (decL u).length ≤ 3 := by
  unfold decL
  split
  · simp
  · exact decR_len 20 3 u h0 (by show u / 10 / 10 / 10 < 1; omega)

theorem src_cells {w W : World} {b : Nat} {S : List Int} (hS : ∀ j, j < S.length → w.cell? ⟨b, j, none⟩ = some (.int .u8 (S.getD j 0))) (hb : b < w.heap.size) (hB : Below w.heap.size w W) (i m : Nat) (ys : List Int) (hy : ∀ j, j < m → i + j < S.length ∧ ys.getD j 0 = S.getD (i + j) 0) :
    ∀ j, j < m → W.cell? ((⟨b, i, none⟩ : Addr).add j) = some (.int .u8 (ys.getD j 0)) := by
  intro j hj
  obtain ⟨h1, h2⟩ := hy j hj
  rw [Go.WideShapes.add_plain, hB.cell (p := ⟨b, i + j, none⟩) hb, h2]
  exact hS (i + j) h1

set_option maxHeartbeats 4000000 in
theorem build_at (neg extra upper : Bool) (b n cs shift zeros : Nat) (S : List Int) (w : World) (hn : S.length = n) (hn0 : 0 < n) (hn2 : n ≤ 20) (hcs : n ≤ cs) (hcs2 : cs ≤ 9223372036854775807) (hsh : shift ≤ 255) (hze : zeros ≤ 255) (hb : b < w.heap.size)
    (hS : ∀ j, j < S.length → w.cell? ⟨b, j, none⟩ = some (.int .u8 (S.getD j 0))) :
    Calls Try.prog 9 #[.bool neg, .slice (some ⟨b, 0, none⟩) n cs, .int .i64 shift, .int .i64 zeros, .bool extra, .bool upper] w fun e w' => ∃ k, e = .returned (.slice (some ⟨w.heap.size, 0, none⟩) k (n + shift + zeros + 16)) ∧
      Bld w (n + shift + zeros + 16) w' k (signL neg ++ midL S shift zeros extra ++ List.replicate zeros 48 ++ extraL extra ++ expL upper ++ decL shift) := by
  have HS : Aside (S.length = n ∧ ∀ j, j < S.length → w.cell? ⟨b, j, none⟩ = some (.int .u8 (S.getD j 0))) := ⟨hn, hS⟩
  clear hS hn
  go_enter Try.func9, Try.ntmps9
  go_upto_if 26 with (at_make; refine wpList_mk _ rfl _ _ rfl _ (n + shift + zeros + 16) rfl rfl (by omega) (by omega) ?_; intro w1 hb1; have B1 : Aside (Bld w (n + shift + zeros + 16) w1 0 []) := hb1; clear hb1)
  go_cut [14] (fun s wc => ∃ k, s = .slice (some ⟨w.heap.size, 0, none⟩) k (n + shift + zeros + 16) ∧ k ≤ 1 ∧ Bld w (n + shift + zeros + 16) wc k (signL neg))
  case first =>
    cases neg with
    | false =>
      go_wp2_with fail
      go_meet
      case rel => exact ⟨0, rfl, by omega, B1.out⟩
    | true =>
      go_wp2_with (at_builtin; refine wpList_app _ rfl _ _ rfl w (n + shift + zeros + 16) 0 [] rfl (B1.out.alloc _) ⟨w1.heap.size, 0, none⟩ 1 1 [45] rfl rfl (lit_cells w1 [45]) (by omega) ?_; intro w2 hb2; have B2 : Aside (Bld w (n + shift + zeros + 16) w2 1 [45]) := hb2; clear hb2)
      go_meet
      case rel => exact ⟨1, rfl, by omega, B2.out⟩
  case rest =>
    obtain ⟨k, rfl, hk, hB⟩ := hcut
    have B2 : Aside (Bld w (n + shift + zeros + 16) wc k (signL neg)) := hB
    clear hB B1
    generalize hhX : signL neg = X at *
    have HHX : Aside (signL neg = X) := hhX
    clear hhX
    go_upto_if 31 with fail
    go_cut [14] (fun s wc => ∃ k, s = .slice (some ⟨w.heap.size, 0, none⟩) k (n + shift + zeros + 16) ∧ k ≤ n + shift + 3 ∧ Bld w (n + shift + zeros + 16) wc k (X ++ midL S shift zeros extra))
    case first =>
      by_cases hs0 : shift = 0
      · subst hs0
        have hsb : (((0 : Nat) : Int) == 0) = true := rfl
        have e1 : Aside (midL S 0 zeros extra = S ++ (if 0 < zeros ∨ extra = true then [46] else [])) := rfl
        by_cases hz : 0 < zeros ∨ extra = true
        · have hgo : (0 < zeros) ∨ (¬ 0 < zeros ∧ extra = true) := by
            by_cases h : 0 < zeros
            · exact .inl h
            · rcases hz with hz | hz
              · exact .inl hz
              · exact .inr ⟨h, hz⟩
          have HZ : Aside (0 < zeros ∨ extra = true) := hz
          clear hz
          have hsrc := src_cells HS.out.2 hb B2.out.bel 0 n S (fun j hj => ⟨by have := HS.out.1; omega, by rw [Nat.zero_add]⟩)
          have SRC : Aside (∀ j, j < n → wc.cell? ((⟨b, 0, none⟩ : Addr).add j) = some (.int .u8 (S.getD j 0))) := hsrc
          clear hsrc
          rcases hgo with h | ⟨h, rfl⟩
          · go_wp2_with (first | (at_builtin; refine wpList_app _ rfl (.tmp 32) (.tmp 33) rfl w (n + 0 + zeros + 16) k X rfl B2.out ⟨b, 0, none⟩ n cs S rfl HS.out.1 SRC.out (by omega) ?_; intro w3 hb3; have B3 : Aside (Bld w (n + 0 + zeros + 16) w3 (k + n) (X ++ S)) := hb3; clear hb3) | (at_builtin; refine wpList_app _ rfl (.tmp 40) (.tmp 41) rfl w (n + 0 + zeros + 16) (k + n) (X ++ S) rfl (B3.out.alloc _) ⟨w3.heap.size, 0, none⟩ 1 1 [46] rfl rfl (lit_cells w3 [46]) (by omega) ?_; intro w4 hb4; have B4 : Aside (Bld w (n + 0 + zeros + 16) w4 (k + n + 1) (X ++ S ++ [46])) := hb4; clear hb4))
            go_meet
            case rel => exact ⟨k + n + 1, rfl, by omega, by rw [e1.out, if_pos HZ.out, ← List.append_assoc]; exact B4.out⟩
          · go_wp2_with (first | (at_builtin; refine wpList_app _ rfl (.tmp 32) (.tmp 33) rfl w (n + 0 + zeros + 16) k X rfl B2.out ⟨b, 0, none⟩ n cs S rfl HS.out.1 SRC.out (by omega) ?_; intro w3 hb3; have B3 : Aside (Bld w (n + 0 + zeros + 16) w3 (k + n) (X ++ S)) := hb3; clear hb3) | (at_builtin; refine wpList_app _ rfl (.tmp 40) (.tmp 41) rfl w (n + 0 + zeros + 16) (k + n) (X ++ S) rfl (B3.out.alloc _) ⟨w3.heap.size, 0, none⟩ 1 1 [46] rfl rfl (lit_cells w3 [46]) (by omega) ?_; intro w4 hb4; have B4 : Aside (Bld w (n + 0 + zeros + 16) w4 (k + n + 1) (X ++ S ++ [46])) := hb4; clear hb4))
            go_meet
            case rel => exact ⟨k + n + 1, rfl, by omega, by rw [e1.out, if_pos HZ.out, ← List.append_assoc]; exact B4.out⟩
        · have HZ : Aside (¬ (0 < zeros ∨ extra = true)) := hz
          have hz0 : zeros = 0 := by omega
          have hex : extra = false := by
            cases hx : extra with
            | false => rfl
            | true => exact absurd (Or.inr hx) hz
          subst hz0 hex
          clear hz
          have hsrc := src_cells HS.out.2 hb B2.out.bel 0 n S (fun j hj => ⟨by have := HS.out.1; omega, by rw [Nat.zero_add]⟩)
          have SRC : Aside (∀ j, j < n → wc.cell? ((⟨b, 0, none⟩ : Addr).add j) = some (.int .u8 (S.getD j 0))) := hsrc
          clear hsrc
          go_wp2_with (at_builtin; refine wpList_app _ rfl (.tmp 32) (.tmp 33) rfl w (n + 0 + 0 + 16) k X rfl B2.out ⟨b, 0, none⟩ n cs S rfl HS.out.1 SRC.out (by omega) ?_; intro w3 hb3; have B3 : Aside (Bld w (n + 0 + 0 + 16) w3 (k + n) (X ++ S)) := hb3; clear hb3)
          go_meet
          case rel => exact ⟨k + n, rfl, by omega, by rw [e1.out, if_neg HZ.out, List.append_nil]; exact B3.out⟩
      · have hsb : ((shift : Int) == 0) = false := beq_eq_false_iff_ne.2 (by omega)
        by_cases hlt : shift < n
        · have e1 : Aside (midL S shift zeros extra = S.take (n - shift) ++ [46] ++ S.drop (n - shift)) := by
            show midL S shift zeros extra = _
            unfold midL; rw [if_neg hs0, if_pos (by rw [HS.out.1]; exact hlt), HS.out.1]
          have hsrc := src_cells HS.out.2 hb B2.out.bel 0 (n - shift) (S.take (n - shift)) (fun j hj => ⟨by have := HS.out.1; omega, by rw [Nat.zero_add]; simp [List.getD, hj]⟩)
          have SRC : Aside (∀ j, j < n - shift → wc.cell? ((⟨b, 0, none⟩ : Addr).add j) = some (.int .u8 ((S.take (n - shift)).getD j 0))) := hsrc
          clear hsrc
          have hsrc2 := fun (W : World) (hB : Below w.heap.size w W) => src_cells HS.out.2 hb hB (n - shift) (n - (n - shift)) (S.drop (n - shift)) (fun j hj => ⟨by have := HS.out.1; omega, by simp [List.getD]⟩)
          have SRC2 : Aside (∀ W : World, Below w.heap.size w W → ∀ j, j < n - (n - shift) → W.cell? ((⟨b, n - shift, none⟩ : Addr).add j) = some (.int .u8 ((S.drop (n - shift)).getD j 0))) := hsrc2
          clear hsrc2
          go_wp2_with (first | (at_builtin; refine wpList_app _ rfl (.tmp 46) (.tmp 51) rfl w (n + shift + zeros + 16) (k) (X) rfl (B2.out) ⟨b, 0, none⟩ (n - shift) (cs) (S.take (n - shift)) rfl (by have := HS.out.1; simp; omega) SRC.out (by omega) ?_; intro w3 hb3; have B3 : Aside (Bld w (n + shift + zeros + 16) w3 (k + (n - shift)) (X ++ S.take (n - shift))) := hb3; clear hb3) | (at_builtin; refine wpList_app _ rfl (.tmp 53) (.tmp 54) rfl w (n + shift + zeros + 16) (k + (n - shift)) (X ++ S.take (n - shift)) rfl (B3.out.alloc _) ⟨w3.heap.size, 0, none⟩ (1) (1) ([46]) rfl rfl (lit_cells w3 [46]) (by omega) ?_; intro w4 hb4; have B4 : Aside (Bld w (n + shift + zeros + 16) w4 (k + (n - shift) + (1)) (X ++ S.take (n - shift) ++ [46])) := hb4; clear hb4) | (at_builtin; refine wpList_app _ rfl (.tmp 56) (.tmp 61) rfl w (n + shift + zeros + 16) (k + (n - shift) + 1) (X ++ S.take (n - shift) ++ [46]) rfl (B4.out) ⟨b, n - shift, none⟩ (n - (n - shift)) (cs - (n - shift)) (S.drop (n - shift)) rfl (by have := HS.out.1; simp; omega) (SRC2.out _ B4.out.bel) (by omega) ?_; intro w5 hb5; have B5 : Aside (Bld w (n + shift + zeros + 16) w5 (k + (n - shift) + 1 + (n - (n - shift))) (X ++ S.take (n - shift) ++ [46] ++ S.drop (n - shift))) := hb5; clear hb5))
          go_meet
          case rel => exact ⟨k + (n - shift) + 1 + (n - (n - shift)), rfl, by omega, by rw [e1.out, ← List.append_assoc, ← List.append_assoc]; exact B5.out⟩
        · have e1 : Aside (midL S shift zeros extra = [48, 46] ++ List.replicate (shift - n) 48 ++ S) := by
            show midL S shift zeros extra = _
            unfold midL; rw [if_neg hs0, if_neg (by rw [HS.out.1]; exact hlt), HS.out.1]
          have hsrc2 := fun (W : World) (hB : Below w.heap.size w W) => src_cells HS.out.2 hb hB 0 n S (fun j hj => ⟨by have := HS.out.1; omega, by rw [Nat.zero_add]⟩)
          have SRC2 : Aside (∀ W : World, Below w.heap.size w W → ∀ j, j < n → W.cell? ((⟨b, 0, none⟩ : Addr).add j) = some (.int .u8 (S.getD j 0))) := hsrc2
          clear hsrc2
          go_wp2_with (at_builtin; refine wpList_app _ rfl (.tmp 63) (.tmp 64) rfl w (n + shift + zeros + 16) (k) (X) rfl (B2.out.alloc _) ⟨wc.heap.size, 0, none⟩ (2) (2) ([48, 46]) rfl rfl (lit_cells wc [48, 46]) (by omega) ?_; intro w3 hb3; have B3 : Aside (Bld w (n + shift + zeros + 16) w3 (k + (2)) (X ++ [48, 46])) := hb3; clear hb3)
          go_loopg [14, 15] shift (fun g s14 s15 wr => ∃ j : Nat, s14 = .slice (some ⟨w.heap.size, 0, none⟩) (k + 2 + j) (n + shift + zeros + 16) ∧ s15 = .int .i64 j ∧ j ≤ shift - n ∧ shift - j ≤ g ∧ Bld w (n + shift + zeros + 16) wr (k + 2 + j) (X ++ [48, 46] ++ List.replicate j 48))
          case atStart => exact ⟨0, rfl, rfl, by omega, by omega, by have := B3.out; simpa using this⟩
          case round =>
            obtain ⟨j, rfl, rfl, hj, hg, hBj⟩ := hrel
            have B4 : Aside (Bld w (n + shift + zeros + 16) wr (k + 2 + j) (X ++ [48, 46] ++ List.replicate j 48)) := hBj
            clear hBj B3
            by_cases hjl : j < shift - n
            · go_wp2_with (at_builtin; refine wpList_app _ rfl (.tmp 73) (.tmp 74) rfl w (n + shift + zeros + 16) (k + 2 + j) (X ++ [48, 46] ++ List.replicate j 48) rfl (B4.out.alloc _) ⟨wr.heap.size, 0, none⟩ (1) (1) ([48]) rfl rfl (lit_cells wr [48]) (by omega) ?_; intro w5 hb5; have B5 : Aside (Bld w (n + shift + zeros + 16) w5 (k + 2 + j + (1)) (X ++ [48, 46] ++ List.replicate j 48 ++ [48])) := hb5; clear hb5)
              go_roundg (shift - (j + 1))
              case measure => omega
              case rel => exact ⟨j + 1, rfl, by go_num, by omega, by omega, by have := B5.out; rw [List.append_assoc, ← List.replicate_succ'] at this; exact this⟩
            · have ej : Aside (j = shift - n) := by show j = shift - n; omega
              go_wp2_with (at_builtin; refine wpList_app _ rfl (.tmp 76) (.tmp 77) rfl w (n + shift + zeros + 16) (k + 2 + j) (X ++ [48, 46] ++ List.replicate j 48) rfl (B4.out) ⟨b, 0, none⟩ (n) (cs) (S) rfl HS.out.1 (SRC2.out _ B4.out.bel) (by omega) ?_; intro w5 hb5; have B5 : Aside (Bld w (n + shift + zeros + 16) w5 (k + 2 + j + (n)) (X ++ [48, 46] ++ List.replicate j 48 ++ S)) := hb5; clear hb5)
              go_meet
              case rel =>
                refine ⟨k + 2 + j + n, rfl, by omega, ?_⟩
                rw [e1.out, ← ej.out, ← List.append_assoc, ← List.append_assoc]
                exact B5.out
    case rest =>
      obtain ⟨k2, rfl, hk2, hB⟩ := hcut
      have B3 : Aside (Bld w (n + shift + zeros + 16) wc k2 (X ++ midL S shift zeros extra)) := hB
      clear hB B2
      generalize hhY : X ++ midL S shift zeros extra = Y at *
      have HHY : Aside (X ++ midL S shift zeros extra = Y) := hhY
      clear hhY
      go_upto_block 2 with fail
      go_cut [14] (fun s wc => ∃ k, s = .slice (some ⟨w.heap.size, 0, none⟩) k (n + shift + zeros + 16) ∧ k ≤ n + shift + 3 + zeros ∧ Bld w (n + shift + zeros + 16) wc k (Y ++ List.replicate zeros 48))
      case first =>
        go_wp2_with fail
        go_loopg [14, 16] zeros (fun g s14 s16 wr => ∃ j : Nat, s14 = .slice (some ⟨w.heap.size, 0, none⟩) (k2 + j) (n + shift + zeros + 16) ∧ s16 = .int .i64 j ∧ j ≤ zeros ∧ zeros - j ≤ g ∧ Bld w (n + shift + zeros + 16) wr (k2 + j) (Y ++ List.replicate j 48))
        case atStart => exact ⟨0, rfl, rfl, by omega, by omega, by have := B3.out; simpa using this⟩
        case round =>
          obtain ⟨j, rfl, rfl, hj, hg, hBj⟩ := hrel
          have B4 : Aside (Bld w (n + shift + zeros + 16) wr (k2 + j) (Y ++ List.replicate j 48)) := hBj
          clear hBj B3
          by_cases hjl : j < zeros
          · go_wp2_with (at_builtin; refine wpList_app _ rfl (.tmp 84) (.tmp 85) rfl w (n + shift + zeros + 16) (k2 + j) (Y ++ List.replicate j 48) rfl (B4.out.alloc _) ⟨wr.heap.size, 0, none⟩ (1) (1) ([48]) rfl rfl (lit_cells wr [48]) (by omega) ?_; intro w5 hb5; have B5 : Aside (Bld w (n + shift + zeros + 16) w5 (k2 + j + (1)) (Y ++ List.replicate j 48 ++ [48])) := hb5; clear hb5)
            go_roundg (zeros - (j + 1))
            case measure => omega
            case rel => exact ⟨j + 1, rfl, by go_num, by omega, by omega, by have := B5.out; rw [List.append_assoc, ← List.replicate_succ'] at this; exact this⟩
          · have ej : Aside (j = zeros) := by show j = zeros; omega
            go_wp2_with fail
            go_meet
            case rel => exact ⟨k2 + j, rfl, by omega, by have := B4.out; rw [ej.out] at this ⊢; exact this⟩
      case rest =>
        obtain ⟨k3, rfl, hk3, hB⟩ := hcut
        have B4 : Aside (Bld w (n + shift + zeros + 16) wc k3 (Y ++ List.replicate zeros 48)) := hB
        clear hB B3
        generalize hhZ : Y ++ List.replicate zeros 48 = Z at *
        have HHZ : Aside (Y ++ List.replicate zeros 48 = Z) := hhZ
        clear hhZ
        go_upto_if 87 with fail
        go_cut [14] (fun s wc => ∃ k, s = .slice (some ⟨w.heap.size, 0, none⟩) k (n + shift + zeros + 16) ∧ k ≤ n + shift + 4 + zeros ∧ Bld w (n + shift + zeros + 16) wc k (Z ++ extraL extra))
        case first =>
          cases extra with
          | false =>
            go_wp2_with fail
            go_meet
            case rel => exact ⟨k3, rfl, by omega, by have := B4.out; simpa [extraL] using this⟩
          | true =>
            go_wp2_with (at_builtin; refine wpList_app _ rfl (.tmp 88) (.tmp 89) rfl w (n + shift + zeros + 16) (k3) (Z) rfl (B4.out.alloc _) ⟨wc.heap.size, 0, none⟩ (1) (1) ([49]) rfl rfl (lit_cells wc [49]) (by omega) ?_; intro w5 hb5; have B5 : Aside (Bld w (n + shift + zeros + 16) w5 (k3 + (1)) (Z ++ [49])) := hb5; clear hb5)
            go_meet
            case rel => exact ⟨k3 + 1, rfl, by omega, B5.out⟩
        case rest =>
          obtain ⟨k4, rfl, hk4, hB⟩ := hcut
          have B5 : Aside (Bld w (n + shift + zeros + 16) wc k4 (Z ++ extraL extra)) := hB
          clear hB B4
          generalize hhV : Z ++ extraL extra = V at *
          have HHV : Aside (Z ++ extraL extra = V) := hhV
          clear hhV
          go_upto_if 91 with fail
          go_cut [14] (fun s wc => ∃ k, s = .slice (some ⟨w.heap.size, 0, none⟩) k (n + shift + zeros + 16) ∧ k ≤ n + shift + 6 + zeros ∧ Bld w (n + shift + zeros + 16) wc k (V ++ expL upper))
          case first =>
            cases upper with
            | false =>
              go_wp2_with (at_builtin; refine wpList_app _ rfl (.tmp 95) (.tmp 96) rfl w (n + shift + zeros + 16) (k4) (V) rfl (B5.out.alloc _) ⟨wc.heap.size, 0, none⟩ (1) (1) ([101]) rfl rfl (lit_cells wc [101]) (by omega) ?_; intro w6 hb6; have B6 : Aside (Bld w (n + shift + zeros + 16) w6 (k4 + (1)) (V ++ [101])) := hb6; clear hb6)
              go_meet
              case rel => exact ⟨k4 + 1, rfl, by omega, B6.out⟩
            | true =>
              go_wp2_with (at_builtin; refine wpList_app _ rfl (.tmp 92) (.tmp 93) rfl w (n + shift + zeros + 16) (k4) (V) rfl (B5.out.alloc _) ⟨wc.heap.size, 0, none⟩ (2) (2) ([69, 43]) rfl rfl (lit_cells wc [69, 43]) (by omega) ?_; intro w6 hb6; have B6 : Aside (Bld w (n + shift + zeros + 16) w6 (k4 + (2)) (V ++ [69, 43])) := hb6; clear hb6)
              go_meet
              case rel => exact ⟨k4 + 2, rfl, by omega, B6.out⟩
          case rest =>
            obtain ⟨k5, rfl, hk5, hB⟩ := hcut
            have B6 : Aside (Bld w (n + shift + zeros + 16) wc k5 (V ++ expL upper)) := hB
            clear hB B5
            generalize hhU : V ++ expL upper = U at *
            have HHU : Aside (V ++ expL upper = U) := hhU
            clear hhU
            have h3 := decL_len3 (shift : Int) (by omega) (by omega)
            go_wp2_with fail
            refine (digits_any (shift : Int) wc (by omega) (by omega)).mono ?_
            rintro _ w7 ⟨g, cap, rfl, hg1, hg2, hl, hl2, hcell, hbel⟩
            have B7 : Aside (Bld w (n + shift + zeros + 16) w7 k5 U) := B6.out.later hbel
            have C7 : Aside (∀ j, j < (decL (shift : Int)).length → w7.cell? ((⟨g, 0, none⟩ : Addr).add j) = some (.int .u8 ((decL (shift : Int)).getD j 0))) := fun j hj => by
              rw [Go.WideShapes.add_plain, Nat.zero_add]; exact hcell j hj
            clear hcell hbel B6
            obtain ⟨L, HL⟩ : ∃ L, Aside ((decL (shift : Int)).length = L) := ⟨_, rfl⟩
            rw [HL.out] at h3 hl C7 ⊢
            go_wp2_with (at_builtin; refine wpList_app _ rfl (.tmp 98) (.tmp 101) rfl w (n + shift + zeros + 16) k5 U rfl B7.out ⟨g, 0, none⟩ L cap (decL (shift : Int)) rfl HL.out C7.out (by omega) ?_; intro w8 hb8; have B8 : Aside (Bld w (n + shift + zeros + 16) w8 (k5 + L) (U ++ decL (shift : Int))) := hb8; clear hb8)
            go_ret
            have h8 := B8.out
            rw [← HHU.out, ← HHV.out, ← HHZ.out, ← HHY.out, ← HHX.out] at h8
            exact ⟨_, rfl, h8⟩

end Go.Proofs.Qxb6629257a.W
