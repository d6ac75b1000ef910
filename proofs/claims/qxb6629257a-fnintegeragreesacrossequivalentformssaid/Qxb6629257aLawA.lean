import Derived.Test.Qxb6629257aPlainC
namespace Go.Proofs.Qxb6629257a.W
open Go.RowKit
set_option linter.unusedVariables false
set_option maxRecDepth 100000

theorem decL_len20 (u : Int) (h0 : 0 ≤ u) (h1 : u ≤ 18446744073709551615) : (decL u).length ≤ 20 := by
  unfold decL
  split
  · simp
  · exact decR_len 20 20 u h0 (ltPow_20 u (by omega))

theorem Bld.text {w0 W W' : World} {cap k : Nat} {xs : List Int} (h : Bld w0 cap W k xs) (hb : Below W.heap.size W W') : Text W' w0.heap.size 0 k (fun j => xs.getD j 0) := by
  have h2 := h.later hb
  exact ⟨fun j hj => by rw [Nat.zero_add]; exact h2.cell j hj⟩

/-- '^v' of a negative v. -/
theorem not_neg (v : Int) (h0 : v < 0) (h1 : -9223372036854775808 ≤ v) : IntKind.u64.wrap (IntKind.u64.wrap (bits .xor .i64 (-1) v) + 1) = -v := by
  have e : bits .xor .i64 (-1) v = -v - 1 := by
    show IntKind.i64.wrap ((BitVec.ofInt 64 (-1) ^^^ BitVec.ofInt 64 v).toNat : Int) = _
    have h1 : BitVec.ofInt 64 (-1) = BitVec.allOnes 64 := by decide
    rw [h1, BitVec.allOnes_xor, BitVec.toNat_not, BitVec.toNat_ofInt, IntKind.wrap_i64]
    omega
  rw [e, IntKind.wrap_u64, IntKind.wrap_u64]
  omega

theorem form_pos (A B : List Int) (upper : Bool) : 0 < (A ++ expL upper ++ B).length := by simp [expL_len]; omega

theorem below2 {w a b : World} (h : Below w.heap.size w a) (k : Below a.heap.size a b) : Below w.heap.size w b := h.trans (k.mono h.size)

set_option maxHeartbeats 2000000 in
theorem lawA_pos (v : Int) (shift zeros : Nat) (upper : Bool) (w : World) (h0 : 0 ≤ v) (h1 : v ≤ 9223372036854775807) (hsh : shift ≤ 255) (hze : zeros ≤ 255) :
    Calls Try.prog 4 #[.int .i64 v, .int .u8 shift, .int .u8 zeros, .bool upper] w fun e w' => e = .returned (.bool true) ∧ Below w.heap.size w w' := by
  have hU0 : 0 ≤ v := by omega
  have hU1 : v ≤ limOf false := by show v ≤ 9223372036854775807; omega
  have HU : Aside (0 ≤ v ∧ v ≤ limOf false) := ⟨hU0, hU1⟩
  have hl20 := decL_len20 (v) hU0 (by omega)
  obtain ⟨hSp, _⟩ := decL_first (v) hU0 (by omega)
  clear hU0 hU1
  have hd : decide (v < 0) = false := decide_eq_false (by omega)
  go_enter Try.func4, Try.ntmps4
  go_wp2_with fail
  refine (digits_any (v) w (by omega) (by omega)).mono ?_
  rintro _ w1 ⟨g, cs, rfl, hg1, hg2, hcs, hcs2, hcell, hbel⟩
  have Z1 : Aside ((∀ j, j < (decL (v)).length → w1.cell? ⟨g, j, none⟩ = some (.int .u8 ((decL (v)).getD j 0))) ∧ Below w.heap.size w w1) := ⟨hcell, hbel⟩
  clear hcell hbel
  obtain ⟨n, HN⟩ : ∃ n, Aside ((decL (v)).length = n) := ⟨_, rfl⟩
  rw [HN.out] at hl20 hSp hcs ⊢
  go_wp2_with (first | (at_make; refine wpList_mk _ rfl _ _ rfl _ (n + 1) rfl rfl (by omega) (by omega) ?_; intro w2 hb2; have B2 : Aside (Bld w1 (n + 1) w2 0 []) := hb2; clear hb2) | (at_builtin; refine wpList_app _ rfl (.tmp 40) (.tmp 41) rfl w1 (n + 1) 0 [] rfl B2.out ⟨g, 0, none⟩ n cs (decL v) rfl HN.out (src_cells Z1.out.1 hg2 B2.out.bel 0 n (decL v) (fun j hj => ⟨by rw [HN.out]; omega, by rw [Nat.zero_add]⟩)) (by omega) ?_; intro w3 hb3; have B3 : Aside (Bld w1 (n + 1) w3 n (signL false ++ decL v)) := (by have h := hb3; rw [Nat.zero_add] at h; exact h); clear hb3))
  have hg3 : g < w3.heap.size := Nat.lt_of_lt_of_le hg2 B3.out.bel.size
  refine (build_at false false upper g n cs shift zeros (decL (v)) w3 HN.out hSp hl20 hcs hcs2 hsh hze hg3 (fun j hj => (B3.out.bel.cell (p := ⟨g, j, none⟩) hg2).trans (Z1.out.1 j hj))).mono ?_
  rintro _ w4 ⟨k4, rfl, hb4⟩
  have B4 : Aside (Bld w3 (n + shift + zeros + 16) w4 k4 (signL false ++ midL (decL (v)) shift zeros false ++ List.replicate zeros 48 ++ extraL false ++ expL upper ++ decL (shift : Int))) := hb4
  clear hb4
  go_wp2_with fail
  have hg4 : g < w4.heap.size := Nat.lt_of_lt_of_le hg3 B4.out.bel.size
  refine (build_at false true upper g n cs shift zeros (decL (v)) w4 HN.out hSp hl20 hcs hcs2 hsh hze hg4 (fun j hj => (B4.out.bel.cell (p := ⟨g, j, none⟩) hg3).trans ((B3.out.bel.cell (p := ⟨g, j, none⟩) hg2).trans (Z1.out.1 j hj)))).mono ?_
  rintro _ w5 ⟨k5, rfl, hb5⟩
  have B5 : Aside (Bld w4 (n + shift + zeros + 16) w5 k5 (signL false ++ midL (decL (v)) shift zeros true ++ List.replicate zeros 48 ++ extraL true ++ expL upper ++ decL (shift : Int))) := hb5
  clear hb5
  have c4 := B4.out.cap
  have c5 := B5.out.cap
  have hk4 : 0 < k4 := by rw [← B4.out.len]; exact form_pos _ _ _
  have hk5 : 0 < k5 := by rw [← B5.out.len]; exact form_pos _ _ _
  have esg : signed false (v) = v := by show v = v; omega
  have ES : Aside (signed false (v) = v) := esg
  clear esg
  have hlt3 : w1.heap.size < w3.heap.size := B3.out.lt
  have hlt4 : w3.heap.size < w4.heap.size := B4.out.lt
  have hlt5 : w4.heap.size < w5.heap.size := B5.out.lt
  go_wp2_with fail
  refine (Integer_at w1.heap.size 0 (n) (n + 1) _ w5 (B3.out.text (below2 B4.out.bel B5.out.bel)) (by omega) (by omega) (by omega) (by omega) (by omega)).mono ?_
  rintro _ w6 ⟨p, pok, rfl, ho, hbel6⟩
  rw [← B3.out.len] at ho
  obtain ⟨hp, hok⟩ := plain_law false (v) HU.out.1 HU.out.2 _ rfl ho
  have hp2 : v = p := ES.out.symm.trans hp.symm
  clear hp
  subst hp2 hok
  have Z6 : Aside (Below w5.heap.size w5 w6) := hbel6
  have hlt6 : w5.heap.size ≤ w6.heap.size := hbel6.size
  clear ho hbel6
  go_wp2_with fail
  refine (Integer_at w3.heap.size 0 k4 (n + shift + zeros + 16) _ w6 (B4.out.text (below2 B5.out.bel Z6.out)) hk4 (by omega) c4.1 c4.2 (by omega)).mono ?_
  rintro _ w7 ⟨q, qok, rfl, ho, hbel7⟩
  rw [← B4.out.len] at ho
  obtain ⟨hp, hok⟩ := (form_law false false upper (v) shift zeros HU.out.1 HU.out.2 hsh _ rfl ho).1 rfl
  have hp2 : v = q := ES.out.symm.trans hp.symm
  clear hp
  subst hp2 hok
  have Z7 : Aside (Below w6.heap.size w6 w7) := hbel7
  have hlt7 : w6.heap.size ≤ w7.heap.size := hbel7.size
  clear ho hbel7
  go_wp2_with fail
  refine (Integer_at w4.heap.size 0 k5 (n + shift + zeros + 16) _ w7 (B5.out.text (below2 Z6.out Z7.out)) hk5 (by omega) c5.1 c5.2 (by omega)).mono ?_
  rintro _ w8 ⟨b, bok, rfl, ho, hbel8⟩
  rw [← B5.out.len] at ho
  obtain ⟨rfl, rfl⟩ := (form_law false true upper (v) shift zeros HU.out.1 HU.out.2 hsh _ rfl ho).2 rfl
  have Z8 : Aside (Below w.heap.size w w8) := below2 (below2 (below2 (below2 (below2 (below2 (below2 Z1.out.2 B3.out.bel) B4.out.bel) B5.out.bel) Z6.out) Z7.out) hbel8) (Below.refl _ _)
  clear ho hbel8
  go_wp2_with fail
  go_ret
  exact ⟨by simp, Z8.out⟩

set_option maxHeartbeats 2000000 in
theorem lawA_neg (v : Int) (shift zeros : Nat) (upper : Bool) (w : World) (h0 : v < 0) (h1 : -9223372036854775808 ≤ v) (hsh : shift ≤ 255) (hze : zeros ≤ 255) :
    Calls Try.prog 4 #[.int .i64 v, .int .u8 shift, .int .u8 zeros, .bool upper] w fun e w' => e = .returned (.bool true) ∧ Below w.heap.size w w' := by
  have hU0 : 0 ≤ -v := by omega
  have hU1 : -v ≤ limOf true := by show -v ≤ 9223372036854775808; omega
  have HU : Aside (0 ≤ -v ∧ -v ≤ limOf true) := ⟨hU0, hU1⟩
  have hl20 := decL_len20 (-v) hU0 (by omega)
  obtain ⟨hSp, _⟩ := decL_first (-v) hU0 (by omega)
  clear hU0 hU1
  have hd : decide (v < 0) = true := decide_eq_true (by omega)
  go_enter Try.func4, Try.ntmps4
  go_wp2_with fail
  rw [not_neg v h0 h1]
  refine (digits_any (-v) w (by omega) (by omega)).mono ?_
  rintro _ w1 ⟨g, cs, rfl, hg1, hg2, hcs, hcs2, hcell, hbel⟩
  have Z1 : Aside ((∀ j, j < (decL (-v)).length → w1.cell? ⟨g, j, none⟩ = some (.int .u8 ((decL (-v)).getD j 0))) ∧ Below w.heap.size w w1) := ⟨hcell, hbel⟩
  clear hcell hbel
  obtain ⟨n, HN⟩ : ∃ n, Aside ((decL (-v)).length = n) := ⟨_, rfl⟩
  rw [HN.out] at hl20 hSp hcs ⊢
  go_wp2_with (first | (at_make; refine wpList_mk _ rfl _ _ rfl _ (n + 1) rfl rfl (by omega) (by omega) ?_; intro w2 hb2; have B2 : Aside (Bld w1 (n + 1) w2 0 []) := hb2; clear hb2) | (at_builtin; refine wpList_app _ rfl (.tmp 37) (.tmp 38) rfl w1 (n + 1) 0 [] rfl (B2.out.alloc _) ⟨w2.heap.size, 0, none⟩ 1 1 [45] rfl rfl (lit_cells w2 [45]) (by omega) ?_; intro w22 hb22; have B22 : Aside (Bld w1 (n + 1) w22 1 [45]) := hb22; clear hb22) | (at_builtin; refine wpList_app _ rfl (.tmp 40) (.tmp 41) rfl w1 (n + 1) 1 [45] rfl B22.out ⟨g, 0, none⟩ n cs (decL (-v)) rfl HN.out (src_cells Z1.out.1 hg2 B22.out.bel 0 n (decL (-v)) (fun j hj => ⟨by rw [HN.out]; omega, by rw [Nat.zero_add]⟩)) (by omega) ?_; intro w3 hb3; have B3 : Aside (Bld w1 (n + 1) w3 (1 + n) (signL true ++ decL (-v))) := hb3; clear hb3))
  have hg3 : g < w3.heap.size := Nat.lt_of_lt_of_le hg2 B3.out.bel.size
  refine (build_at true false upper g n cs shift zeros (decL (-v)) w3 HN.out hSp hl20 hcs hcs2 hsh hze hg3 (fun j hj => (B3.out.bel.cell (p := ⟨g, j, none⟩) hg2).trans (Z1.out.1 j hj))).mono ?_
  rintro _ w4 ⟨k4, rfl, hb4⟩
  have B4 : Aside (Bld w3 (n + shift + zeros + 16) w4 k4 (signL true ++ midL (decL (-v)) shift zeros false ++ List.replicate zeros 48 ++ extraL false ++ expL upper ++ decL (shift : Int))) := hb4
  clear hb4
  go_wp2_with fail
  have hg4 : g < w4.heap.size := Nat.lt_of_lt_of_le hg3 B4.out.bel.size
  refine (build_at true true upper g n cs shift zeros (decL (-v)) w4 HN.out hSp hl20 hcs hcs2 hsh hze hg4 (fun j hj => (B4.out.bel.cell (p := ⟨g, j, none⟩) hg3).trans ((B3.out.bel.cell (p := ⟨g, j, none⟩) hg2).trans (Z1.out.1 j hj)))).mono ?_
  rintro _ w5 ⟨k5, rfl, hb5⟩
  have B5 : Aside (Bld w4 (n + shift + zeros + 16) w5 k5 (signL true ++ midL (decL (-v)) shift zeros true ++ List.replicate zeros 48 ++ extraL true ++ expL upper ++ decL (shift : Int))) := hb5
  clear hb5
  have c4 := B4.out.cap
  have c5 := B5.out.cap
  have hk4 : 0 < k4 := by rw [← B4.out.len]; exact form_pos _ _ _
  have hk5 : 0 < k5 := by rw [← B5.out.len]; exact form_pos _ _ _
  have esg : signed true (-v) = v := by show -(-v) = v; omega
  have ES : Aside (signed true (-v) = v) := esg
  clear esg
  have hlt3 : w1.heap.size < w3.heap.size := B3.out.lt
  have hlt4 : w3.heap.size < w4.heap.size := B4.out.lt
  have hlt5 : w4.heap.size < w5.heap.size := B5.out.lt
  go_wp2_with fail
  refine (Integer_at w1.heap.size 0 (1 + n) (n + 1) _ w5 (B3.out.text (below2 B4.out.bel B5.out.bel)) (by omega) (by omega) (by omega) (by omega) (by omega)).mono ?_
  rintro _ w6 ⟨p, pok, rfl, ho, hbel6⟩
  rw [← B3.out.len] at ho
  obtain ⟨hp, hok⟩ := plain_law true (-v) HU.out.1 HU.out.2 _ rfl ho
  have hp2 : v = p := ES.out.symm.trans hp.symm
  clear hp
  subst hp2 hok
  have Z6 : Aside (Below w5.heap.size w5 w6) := hbel6
  have hlt6 : w5.heap.size ≤ w6.heap.size := hbel6.size
  clear ho hbel6
  go_wp2_with fail
  refine (Integer_at w3.heap.size 0 k4 (n + shift + zeros + 16) _ w6 (B4.out.text (below2 B5.out.bel Z6.out)) hk4 (by omega) c4.1 c4.2 (by omega)).mono ?_
  rintro _ w7 ⟨q, qok, rfl, ho, hbel7⟩
  rw [← B4.out.len] at ho
  obtain ⟨hp, hok⟩ := (form_law true false upper (-v) shift zeros HU.out.1 HU.out.2 hsh _ rfl ho).1 rfl
  have hp2 : v = q := ES.out.symm.trans hp.symm
  clear hp
  subst hp2 hok
  have Z7 : Aside (Below w6.heap.size w6 w7) := hbel7
  have hlt7 : w6.heap.size ≤ w7.heap.size := hbel7.size
  clear ho hbel7
  go_wp2_with fail
  refine (Integer_at w4.heap.size 0 k5 (n + shift + zeros + 16) _ w7 (B5.out.text (below2 Z6.out Z7.out)) hk5 (by omega) c5.1 c5.2 (by omega)).mono ?_
  rintro _ w8 ⟨b, bok, rfl, ho, hbel8⟩
  rw [← B5.out.len] at ho
  obtain ⟨rfl, rfl⟩ := (form_law true true upper (-v) shift zeros HU.out.1 HU.out.2 hsh _ rfl ho).2 rfl
  have Z8 : Aside (Below w.heap.size w w8) := below2 (below2 (below2 (below2 (below2 (below2 (below2 Z1.out.2 B3.out.bel) B4.out.bel) B5.out.bel) Z6.out) Z7.out) hbel8) (Below.refl _ _)
  clear ho hbel8
  go_wp2_with fail
  go_ret
  exact ⟨by simp, Z8.out⟩

end Go.Proofs.Qxb6629257a.W
