import Derived.Test.Qxb6629303aWalksB
namespace Go.Proofs.Qxb6629303a.W
open Go.RowKit
set_option linter.unusedVariables false
set_option maxRecDepth 100000

/-- The batches: from batch k on, with 'left' targets to move. -/
def ofL (s : Nat → Int) : Nat → Nat → Int → List Int
  | 0, _, _ => []
  | f + 1, k, left => if left ≤ 0 then [] else min (s k) left :: ofL s f (k + 1) (left - min (s k) left)

theorem ofL_done (s : Nat → Int) (f k : Nat) (left : Int) (h : left ≤ 0) : ofL s f k left = [] := by
  cases f with
  | zero => rfl
  | succ f => show (if left ≤ 0 then [] else _) = _; rw [if_pos h]

theorem ofL_step (s : Nat → Int) (f k : Nat) (left : Int) (h : 0 < left) : ofL s (f + 1) k left = min (s k) left :: ofL s f (k + 1) (left - min (s k) left) := by
  show (if left ≤ 0 then [] else _) = _; rw [if_neg (by omega)]

/-- The size of batch k. -/
def sAt (n : Nat) (N : Nat → Int) (P : Nat → Bool) (total : Int) (k : Nat) : Int := szB (N (min k (n - 1))) (P (min k (n - 1))) total

def OfPost (L : List Int) (w : World) (e : Ending) (w' : World) : Prop :=
  ∃ ao c, e = .returned (.slice ao L.length c) ∧ w'.ownsRow w.heap.size 3 1 (.slice ao L.length c) L.length (L.map (Value.int .i64)) ∧ (L = [] → ao = none ∧ c = 0) ∧ Below w.heap.size w w'

theorem info3 : (Try.prog.info? 3).map (fun i => (i.zero, i.size, i.bytes)) = some (some (.int .i64 0), 1, 8) := by kernel_rfl

theorem one_new (W : World) (x : Int) : ∀ j u, [Value.int .i64 x][j]? = some u → (W.alloc (.cells #[.int .i64 x] 3)).cell? ((⟨W.heap.size, 0, none⟩ : Addr).add j) = some u := by
  intro j u hj
  match j, hj with
  | 0, hj => simp at hj; subst hj; simp [Addr.add]

theorem own_later {W W' : World} {B e size n : Nat} {v : Value} {xs : List Value} (h : W.ownsRow B e size v n xs) (hb : Below W.heap.size W W') : W'.ownsRow B e size v n xs := by
  obtain ⟨h1, h2⟩ := h
  refine ⟨h1, ?_⟩
  rcases h2 with h2 | ⟨g, cp, cur, hv, hg, hh, r⟩
  · exact .inl h2
  · refine .inr ⟨g, cp, cur, hv, hg, ?_, r⟩
    obtain ⟨hlt, _⟩ := Array.getElem?_eq_some_iff.1 hh
    rw [hb.block g hlt]
    exact hh

theorem own_base {W : World} {B e size n : Nat} {v : Value} {xs : List Value} (h : W.ownsRow B e size v n xs) : ∀ k, v.ownBlock = some k → B ≤ k := fun k hk => (h.lt k hk).1

set_option maxHeartbeats 4000000 in
theorem of_at (a : Option Addr) (n cap : Nat) (N : Nat → Int) (P : Nat → Bool) (total skip : Int) (w : World) (hm : n ≤ 65536) (R : BRow w a n N P) (hn : 0 < n ∨ total - skip ≤ 0)
    (t1 : -2147483648 ≤ total) (t2 : total ≤ 2147483648) (s1 : -2147483648 ≤ skip) (s2 : skip ≤ 4294967296) (hd : total - skip ≤ 65536) (hN : ∀ i, i < n → N i ≤ 9223372036854775807) :
    Calls Try.prog 8 #[.slice a n cap, .int .i64 total, .int .i64 skip] w (OfPost (ofL (sAt n N P total) 65536 0 (total - skip)) w) := by
  have RR : Aside (BRow w a n N P ∧ (∀ i, i < n → N i ≤ 9223372036854775807)) := ⟨R, hN⟩
  obtain ⟨L, HL⟩ : ∃ L, Aside (ofL (sAt n N P total) 65536 0 (total - skip) = L) := ⟨_, rfl⟩
  rw [HL.out]
  clear R hN
  obtain ⟨i0, hi, hz0, hz1, hz2⟩ := info_parts info3
  have II : Aside (Try.prog.info? 3 = some i0 ∧ i0.zero = some (.int .i64 0) ∧ i0.size = 1 ∧ i0.bytes = 8) := ⟨hi, hz0, hz1, hz2⟩
  clear hi hz0 hz1 hz2
  go_enter Try.func8, Try.ntmps8
  go_wp2
  go_loopg [7, 8] 65536 (fun g s7 s8 wr => ∃ (k : Nat) (left : Int) (xs : List Int) (ao : Option Addr) (c : Nat), s7 = .slice ao k c ∧ s8 = .int .i64 left ∧ wr.ownsRow w.heap.size 3 1 (.slice ao k c) k (xs.map (Value.int .i64)) ∧ xs ++ ofL (sAt n N P total) (65536 - k) k left = L ∧ left ≤ 65536 - (k : Int) ∧ -4294967296 - 4294967296 ≤ left ∧ k ≤ 65536 ∧ left.toNat ≤ g ∧ (0 < left → 0 < n) ∧ (k = 0 → ao = none ∧ c = 0) ∧ Below w.heap.size w wr)
  case atStart => exact ⟨0, total - skip, [], none, 0, rfl, rfl, World.ownsRow_nil _ _ _ _, HL.out, by omega, by omega, by omega, by omega, fun h => by omega, fun _ => ⟨rfl, rfl⟩, Below.refl _ _⟩
  case round =>
    obtain ⟨k, left, xs, ao, c, rfl, rfl, hown, hL, hl1, hl2, hk, hg, hpn, hk0, hbel⟩ := hrel
    by_cases hpos : 0 < left
    · have hn0 := hpn hpos
      obtain ⟨b, off, rfl, hbl, h1, h2⟩ := RR.out.1.addr hn0
      obtain ⟨f, hf⟩ : ∃ f, 65536 - k = f + 1 := ⟨65536 - k - 1, by omega⟩
      rw [hf, ofL_step _ _ _ _ hpos] at hL
      have hsb := szB_bd (N (min k (n - 1))) (P (min k (n - 1))) total (RR.out.2 _ (by omega))
      have ZL : Aside (xs ++ min (sAt n N P total k) left :: ofL (sAt n N P total) f (k + 1) (left - min (sAt n N P total k) left) = L ∧ 65536 - (k + 1) = f ∧ Below w.heap.size w wr) := ⟨hL, by omega, hbel⟩
      have OW : Aside (wr.ownsRow w.heap.size 3 1 (.slice ao k c) k (xs.map (Value.int .i64))) := hown
      have hsz : w.heap.size ≤ wr.heap.size := hbel.size
      have CS : Aside (∀ i, i < n → wr.cell? ⟨b, off + i * 2, none⟩ = some (.int .i64 (N i)) ∧ wr.cell? ⟨b, off + i * 2 + 1, none⟩ = some (.bool (P i))) := fun i hi => ⟨(hbel.cell (p := ⟨b, off + i * 2, none⟩) hbl).trans (h1 i hi), (hbel.cell (p := ⟨b, off + i * 2 + 1, none⟩) hbl).trans (h2 i hi)⟩
      have SA : Aside (sAt n N P total k = szB (N (min k (n - 1))) (P (min k (n - 1))) total) := rfl
      clear hL hown hbel h1 h2 hk0 hf
      by_cases hkn : (k : Int) ≤ (n : Int) - 1
      · have ej : min k (n - 1) = k := by omega
        rw [ej] at hsb SA
        obtain ⟨c1, c2⟩ := CS.out (k) (by omega)
        have hcon : ∀ W : World, Calls Try.prog 9 #[.agg #[.int .i64 (N (k)), .bool (P (k))], .int .i64 total] W fun e w' => e = .returned (.int .i64 (szB (N (k)) (P (k)) total)) ∧ Below W.heap.size W w' := fun W => of1_at _ _ _ W
        clear ej CS
        generalize szB (N (k)) (P (k)) total = z at hsb SA hcon
        generalize N (k) = x at c1 hcon
        generalize P (k) = y at c2 hcon
        have H : Hid _ := hcon
        clear hcon
        by_cases hmin : z ≤ left
        · have MN : Aside (min (sAt n N P total k) left = z) := by show min (sAt n N P total k) left = z; rw [SA.out]; omega
          go_wp2_with (first | (go_at_call 9; refine Calls.mono (H.out _) ?_; rintro _ w2 ⟨rfl, hb2⟩; have B2 : Aside (Below wr.heap.size wr w2) := hb2; have hsz2 : wr.heap.size ≤ w2.heap.size := hb2.size; clear hb2) | (at_builtin; refine wpList_append_lies _ rfl (.tmp 28) (.tmp 30) 27 rfl w.heap.size 3 i0 (.int .i64 0) 1 8 Try.underlying27 II.out.1 II.out.2.1 II.out.2.2.1 II.out.2.2.2 rfl (by omega) (.slice ao k c) k _ rfl ((own_later OW.out B2.out).alloc _) ⟨w2.heap.size, 0, none⟩ 1 1 [.int .i64 z] rfl rfl (one_new w2 z) (ints_oneCell .i64 [z]) (by omega) (by unfold maxLen; omega) (by omega) (by simp; omega) (w2.heap.size + 1) (by simp) ?_; intro g2 cap2 w3 hown3 hgrow3 hat3 hlt3; have Z3 : Aside (w3.ownsRow w.heap.size 3 1 (.slice (some ⟨g2, 0, none⟩) (k + 1) cap2) (k + 1) ((xs ++ [z]).map (Value.int .i64)) ∧ Below w.heap.size w w3) := ⟨by have h := hown3; rw [List.map_append]; exact h, (((ZL.out.2.2.trans (B2.out.mono hsz)).alloc (Nat.le_trans hsz hsz2) _).grown hgrow3 (by simp; omega) (own_base (OW.out)))⟩; clear hown3 hgrow3 hat3))
          go_roundg (left - z).toNat
          case measure => omega
          case rel => exact ⟨k + 1, left - z, xs ++ [z], _, _, rfl, rfl, Z3.out.1, by rw [ZL.out.2.1, List.append_assoc]; have h := ZL.out.1; rw [MN.out] at h; exact h, by omega, by omega, by omega, Nat.le_refl _, fun _ => hn0, fun h => absurd h (Nat.succ_ne_zero _), Z3.out.2⟩
        · have MN : Aside (min (sAt n N P total k) left = left) := by show min (sAt n N P total k) left = left; rw [SA.out]; omega
          go_wp2_with (first | (go_at_call 9; refine Calls.mono (H.out _) ?_; rintro _ w2 ⟨rfl, hb2⟩; have B2 : Aside (Below wr.heap.size wr w2) := hb2; have hsz2 : wr.heap.size ≤ w2.heap.size := hb2.size; clear hb2) | (at_builtin; refine wpList_append_lies _ rfl (.tmp 28) (.tmp 30) 27 rfl w.heap.size 3 i0 (.int .i64 0) 1 8 Try.underlying27 II.out.1 II.out.2.1 II.out.2.2.1 II.out.2.2.2 rfl (by omega) (.slice ao k c) k _ rfl ((own_later OW.out B2.out).alloc _) ⟨w2.heap.size, 0, none⟩ 1 1 [.int .i64 left] rfl rfl (one_new w2 left) (ints_oneCell .i64 [left]) (by omega) (by unfold maxLen; omega) (by omega) (by simp; omega) (w2.heap.size + 1) (by simp) ?_; intro g2 cap2 w3 hown3 hgrow3 hat3 hlt3; have Z3 : Aside (w3.ownsRow w.heap.size 3 1 (.slice (some ⟨g2, 0, none⟩) (k + 1) cap2) (k + 1) ((xs ++ [left]).map (Value.int .i64)) ∧ Below w.heap.size w w3) := ⟨by have h := hown3; rw [List.map_append]; exact h, (((ZL.out.2.2.trans (B2.out.mono hsz)).alloc (Nat.le_trans hsz hsz2) _).grown hgrow3 (by simp; omega) (own_base (OW.out)))⟩; clear hown3 hgrow3 hat3))
          go_roundg (left - left).toNat
          case measure => omega
          case rel => exact ⟨k + 1, left - left, xs ++ [left], _, _, rfl, by rw [Int.sub_self], Z3.out.1, by rw [ZL.out.2.1, List.append_assoc]; have h := ZL.out.1; rw [MN.out] at h; exact h, by omega, by omega, by omega, Nat.le_refl _, fun _ => hn0, fun h => absurd h (Nat.succ_ne_zero _), Z3.out.2⟩
      · have ej : min k (n - 1) = n - 1 := by omega
        rw [ej] at hsb SA
        obtain ⟨c1, c2⟩ := CS.out (n - 1) (by omega)
        have hcon : ∀ W : World, Calls Try.prog 9 #[.agg #[.int .i64 (N (n - 1)), .bool (P (n - 1))], .int .i64 total] W fun e w' => e = .returned (.int .i64 (szB (N (n - 1)) (P (n - 1)) total)) ∧ Below W.heap.size W w' := fun W => of1_at _ _ _ W
        clear ej CS
        generalize szB (N (n - 1)) (P (n - 1)) total = z at hsb SA hcon
        generalize N (n - 1) = x at c1 hcon
        generalize P (n - 1) = y at c2 hcon
        have H : Hid _ := hcon
        clear hcon
        by_cases hmin : z ≤ left
        · have MN : Aside (min (sAt n N P total k) left = z) := by show min (sAt n N P total k) left = z; rw [SA.out]; omega
          go_wp2_with (first | (go_at_call 9; refine Calls.mono (H.out _) ?_; rintro _ w2 ⟨rfl, hb2⟩; have B2 : Aside (Below wr.heap.size wr w2) := hb2; have hsz2 : wr.heap.size ≤ w2.heap.size := hb2.size; clear hb2) | (at_builtin; refine wpList_append_lies _ rfl (.tmp 28) (.tmp 30) 27 rfl w.heap.size 3 i0 (.int .i64 0) 1 8 Try.underlying27 II.out.1 II.out.2.1 II.out.2.2.1 II.out.2.2.2 rfl (by omega) (.slice ao k c) k _ rfl ((own_later OW.out B2.out).alloc _) ⟨w2.heap.size, 0, none⟩ 1 1 [.int .i64 z] rfl rfl (one_new w2 z) (ints_oneCell .i64 [z]) (by omega) (by unfold maxLen; omega) (by omega) (by simp; omega) (w2.heap.size + 1) (by simp) ?_; intro g2 cap2 w3 hown3 hgrow3 hat3 hlt3; have Z3 : Aside (w3.ownsRow w.heap.size 3 1 (.slice (some ⟨g2, 0, none⟩) (k + 1) cap2) (k + 1) ((xs ++ [z]).map (Value.int .i64)) ∧ Below w.heap.size w w3) := ⟨by have h := hown3; rw [List.map_append]; exact h, (((ZL.out.2.2.trans (B2.out.mono hsz)).alloc (Nat.le_trans hsz hsz2) _).grown hgrow3 (by simp; omega) (own_base (OW.out)))⟩; clear hown3 hgrow3 hat3))
          go_roundg (left - z).toNat
          case measure => omega
          case rel => exact ⟨k + 1, left - z, xs ++ [z], _, _, rfl, rfl, Z3.out.1, by rw [ZL.out.2.1, List.append_assoc]; have h := ZL.out.1; rw [MN.out] at h; exact h, by omega, by omega, by omega, Nat.le_refl _, fun _ => hn0, fun h => absurd h (Nat.succ_ne_zero _), Z3.out.2⟩
        · have MN : Aside (min (sAt n N P total k) left = left) := by show min (sAt n N P total k) left = left; rw [SA.out]; omega
          go_wp2_with (first | (go_at_call 9; refine Calls.mono (H.out _) ?_; rintro _ w2 ⟨rfl, hb2⟩; have B2 : Aside (Below wr.heap.size wr w2) := hb2; have hsz2 : wr.heap.size ≤ w2.heap.size := hb2.size; clear hb2) | (at_builtin; refine wpList_append_lies _ rfl (.tmp 28) (.tmp 30) 27 rfl w.heap.size 3 i0 (.int .i64 0) 1 8 Try.underlying27 II.out.1 II.out.2.1 II.out.2.2.1 II.out.2.2.2 rfl (by omega) (.slice ao k c) k _ rfl ((own_later OW.out B2.out).alloc _) ⟨w2.heap.size, 0, none⟩ 1 1 [.int .i64 left] rfl rfl (one_new w2 left) (ints_oneCell .i64 [left]) (by omega) (by unfold maxLen; omega) (by omega) (by simp; omega) (w2.heap.size + 1) (by simp) ?_; intro g2 cap2 w3 hown3 hgrow3 hat3 hlt3; have Z3 : Aside (w3.ownsRow w.heap.size 3 1 (.slice (some ⟨g2, 0, none⟩) (k + 1) cap2) (k + 1) ((xs ++ [left]).map (Value.int .i64)) ∧ Below w.heap.size w w3) := ⟨by have h := hown3; rw [List.map_append]; exact h, (((ZL.out.2.2.trans (B2.out.mono hsz)).alloc (Nat.le_trans hsz hsz2) _).grown hgrow3 (by simp; omega) (own_base (OW.out)))⟩; clear hown3 hgrow3 hat3))
          go_roundg (left - left).toNat
          case measure => omega
          case rel => exact ⟨k + 1, left - left, xs ++ [left], _, _, rfl, by rw [Int.sub_self], Z3.out.1, by rw [ZL.out.2.1, List.append_assoc]; have h := ZL.out.1; rw [MN.out] at h; exact h, by omega, by omega, by omega, Nat.le_refl _, fun _ => hn0, fun h => absurd h (Nat.succ_ne_zero _), Z3.out.2⟩
    · rw [ofL_done _ _ _ _ (by omega), List.append_nil] at hL
      have hlen : xs.length = k := by have := hown.1; simpa using this
      have Z : Aside (xs = L ∧ xs.length = k ∧ wr.ownsRow w.heap.size 3 1 (.slice ao k c) k (xs.map (Value.int .i64)) ∧ (k = 0 → ao = none ∧ c = 0) ∧ Below w.heap.size w wr) := ⟨hL, hlen, hown, hk0, hbel⟩
      clear hL hlen hown hk0 hbel
      go_wp2_with fail
      go_ret
      obtain ⟨rfl, rfl, hown, hk0, hbel⟩ := Z.out
      exact ⟨ao, c, rfl, hown, fun h => hk0 (by rw [h]; rfl), hbel⟩

end Go.Proofs.Qxb6629303a.W
