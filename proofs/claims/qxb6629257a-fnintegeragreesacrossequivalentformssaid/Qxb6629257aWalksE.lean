import Derived.Test.Qxb6629257aWalksA
import Derived.Deep.DeepCutAuto
import Derived.Deep.CutBlock
namespace Go.Proofs.Qxb6629257a.W
open Go.RowKit
set_option linter.unusedVariables false
set_option maxRecDepth 100000

theorem info5 : (Try.prog.info? 5).map (fun i => (i.zero, i.size, i.bytes)) = some (some (.int .u8 0), 1, 1) := by kernel_rfl

/-- A row of bytes that is being built in the first block behind w0: k bytes xs, room for cap; all that was in w0 stands. -/
structure Bld (w0 : World) (cap : Nat) (W : World) (k : Nat) (xs : List Int) : Prop where
  own : W.ownsRow w0.heap.size 5 1 (.slice (some ⟨w0.heap.size, 0, none⟩) k cap) k (xs.map (Value.int .u8))
  bel : Below w0.heap.size w0 W

theorem Bld.len {w0 W : World} {cap k : Nat} {xs : List Int} (h : Bld w0 cap W k xs) : xs.length = k := by
  have := h.own.1
  simpa using this

theorem Bld.lt {w0 W : World} {cap k : Nat} {xs : List Int} (h : Bld w0 cap W k xs) : w0.heap.size < W.heap.size := (h.own.lt w0.heap.size rfl).2

theorem Bld.alloc {w0 W : World} {cap k : Nat} {xs : List Int} (h : Bld w0 cap W k xs) (o : Obj) : Bld w0 cap (W.alloc o) k xs :=
  ⟨h.own.alloc o, h.bel.alloc (Nat.le_of_lt h.lt) o⟩

theorem Bld.later {w0 W W' : World} {cap k : Nat} {xs : List Int} (h : Bld w0 cap W k xs) (hb : Below W.heap.size W W') : Bld w0 cap W' k xs := by
  have hl := h.lt
  refine ⟨?_, h.bel.trans (hb.mono (Nat.le_of_lt hl))⟩
  obtain ⟨h1, h2⟩ := h.own
  refine ⟨h1, ?_⟩
  rcases h2 with h2 | ⟨g, cp, cur, hv, hg, hh, r⟩
  · exact .inl h2
  · refine .inr ⟨g, cp, cur, hv, hg, ?_, r⟩
    have e : g = w0.heap.size := by cases hv; rfl
    rw [hb.block g (by omega)]
    exact hh

theorem Bld.cell {w0 W : World} {cap k : Nat} {xs : List Int} (h : Bld w0 cap W k xs) (j : Nat) (hj : j < k) : W.cell? ⟨w0.heap.size, j, none⟩ = some (.int .u8 (xs.getD j 0)) := by
  rw [h.own.cellAt j (by omega)]
  have := h.len
  simp [List.getElem?_map, List.getD, List.getElem?_eq_getElem (show j < xs.length by omega)]

theorem Bld.cap {w0 W : World} {cap k : Nat} {xs : List Int} (h : Bld w0 cap W k xs) : k ≤ cap ∧ cap ≤ 9223372036854775807 := by
  obtain ⟨_, h2⟩ := h.own
  rcases h2 with ⟨h2, _⟩ | ⟨g, cp, cur, hv, hg, hh, r1, r2, _⟩
  · cases h2
  · cases hv
    unfold maxLen at r2
    exact ⟨r1, r2⟩

/-- 'append(out, ys...)' within the room. -/
theorem wpList_app (W : World) {ops : Array Oper} {rest : List Oper} {o : Oper} {a : Act} {Q : Exit → Act → World → Prop}
    (hg : o.guard = none) (s x : Operand) (hop : o.op = Op.call { callee := Callee.builtin Builtin.append, args := #[s, x], argTypes := #[22, 22] })
    (w0 : World) (cap k : Nat) (xs : List Int) (hs : a.eval s = .slice (some ⟨w0.heap.size, 0, none⟩) k cap) (hB : Bld w0 cap W k xs)
    (ad : Addr) (m c : Nat) (ys : List Int) (hx : a.eval x = .slice (some ad) m c) (hm : ys.length = m) (hc : ∀ j, j < m → W.cell? (ad.add j) = some (.int .u8 (ys.getD j 0))) (hfit : k + m ≤ cap)
    (hK : ∀ w', Bld w0 cap w' (k + m) (xs ++ ys) → wpList Try.prog ops Q rest (a.put o.dst (.slice (some ⟨w0.heap.size, 0, none⟩) (k + m) cap)) w') :
    wpList Try.prog ops Q (o :: rest) a W := by
  obtain ⟨i0, hi, hz0, hz1, hz2⟩ := info_parts info5
  refine wpList_append_fits W hg s x 22 hop w0.heap.size 5 i0 1 Try.underlying22 hi hz1 w0.heap.size k cap _ hs hB.own ad m c (ys.map (Value.int .u8)) hx (by simp [hm]) ?_ (ints_oneCell _ _) hfit ?_
  · intro j u hu
    have hj : j < ys.length := by
      have := (List.getElem?_eq_some_iff.1 hu).1
      simpa using this
    rw [hc j (by omega)]
    simp only [List.getElem?_map, List.getElem?_eq_getElem hj, Option.map_some, Option.some.injEq] at hu
    rw [← hu]
    simp [List.getD, List.getElem?_eq_getElem hj]
  · intro w' h1 h2
    refine hK w' ⟨by simpa using h1, hB.bel.grown h2 (Nat.le_of_lt hB.lt) (fun k hk => by cases hk; exact Nat.le_refl _)⟩

/-- 'make([]byte, 0, n)'. -/
theorem wpList_mk (W : World) {ops : Array Oper} {rest : List Oper} {o : Oper} {a : Act} {Q : Exit → Act → World → Prop}
    (hg : o.guard = none) (l c : Operand) (hop : o.op = Op.makeSlice 22 l c) (C : Int) (n : Nat) (hl : a.eval l = .int .i64 0) (hc : a.eval c = .int .i64 C) (hC : C = (n : Int)) (hn : n ≤ 100000000)
    (hK : ∀ w', Bld W n w' 0 [] → wpList Try.prog ops Q rest (a.put o.dst (.slice (some ⟨W.heap.size, 0, none⟩) 0 n)) w') :
    wpList Try.prog ops Q (o :: rest) a W := by
  obtain ⟨i0, hi, hz0, hz1, hz2⟩ := info_parts info5
  refine wpList_make_own W hg l c 22 hop W.heap.size 5 i0 (.int .u8 0) 1 Try.underlying22 hi hz0 hz1 .i64 .i64 C n hl hc hC (by rw [hz2]; omega) (by unfold maxLen; omega) (Nat.le_refl _) ?_
  intro w' h1 h2
  exact hK w' ⟨h1, (Below.refl _ _).grown h2 (Nat.le_refl _) (fun k hk => by cases hk)⟩

theorem cellOf {W : World} {b k : Nat} {t : TypeId} {cs : Array Value} {v : Value} (h : W.heap[b]? = some (.cells cs t)) (hk : cs[k]? = some v) : W.cell? ⟨b, k, none⟩ = some v := by
  simp [World.cell?, h, hk]

/-- A list's bytes laid in a block of their own, ahead of 'append'. -/
theorem lit_cells (W : World) (ys : List Int) : ∀ j, j < ys.length → (W.alloc (.cells (ys.map (Value.int .u8)).toArray 5)).cell? ((⟨W.heap.size, 0, none⟩ : Addr).add j) = some (.int .u8 (ys.getD j 0)) := by
  intro j hj
  rw [Go.WideShapes.add_plain]
  have h := Go.Deep.blk_alloc_new W (.cells (ys.map (Value.int .u8)).toArray 5)
  rw [Nat.zero_add]
  refine cellOf h ?_
  simp [List.getD, List.getElem?_eq_getElem hj]

theorem take_getD (T : List Int) (k : Nat) (h : k < T.length) : T.take k ++ [T.getD k 0] = T.take (k + 1) := by
  rw [List.take_succ_eq_append_getElem h]
  simp [List.getD, List.getElem?_eq_getElem h]

/-! ### The decimal digits -/

def decR : Nat → Int → List Int
  | 0, _ => []
  | f + 1, u => if u = 0 then [] else decR f (u / 10) ++ [48 + u % 10]

def decL (u : Int) : List Int := if u = 0 then [48] else decR 20 u

theorem decR_step (f : Nat) (u : Int) (h : u ≠ 0) : decR (f + 1) u = decR f (u / 10) ++ [48 + u % 10] := by
  show (if u = 0 then [] else decR f (u / 10) ++ [48 + u % 10]) = _
  rw [if_neg h]

theorem decR_zero (f : Nat) : decR f 0 = [] := by
  cases f with
  | zero => rfl
  | succ f => show (if (0 : Int) = 0 then [] else _) = _; rw [if_pos rfl]

/-- u < 10^i, by digits. -/
def ltPow : Nat → Int → Prop
  | 0, u => u < 1
  | i + 1, u => ltPow i (u / 10)

theorem ltPow_20 (u : Int) (h : u < 100000000000000000000) : ltPow 20 u := by
  show u / 10 / 10 / 10 / 10 / 10 / 10 / 10 / 10 / 10 / 10 / 10 / 10 / 10 / 10 / 10 / 10 / 10 / 10 / 10 / 10 < 1
  omega

set_option maxHeartbeats 400000 in
theorem digits_zero (w : World) :
    Calls Try.prog 8 #[.int .u64 0] w fun e w' => e = .returned (.slice (some ⟨w.heap.size, 0, none⟩) 1 1) ∧ w.alloc (.cells #[.int .u8 48] 5) = w' := by
  go_enter Try.func8, Try.ntmps8
  go_wp2
  go_ret
  exact ⟨rfl, rfl⟩

set_option maxHeartbeats 4000000 in
theorem digits_pos (u : Int) (w : World) (h0 : 0 < u) (h1 : u ≤ 18446744073709551615) :
    Calls Try.prog 8 #[.int .u64 u] w fun e w' => ∃ g cap, e = .returned (.slice (some ⟨g, 0, none⟩) (decR 20 u).length cap) ∧ w.heap.size ≤ g ∧ g < w'.heap.size ∧ (decR 20 u).length ≤ cap ∧ cap ≤ 9223372036854775807 ∧
      (∀ j, j < (decR 20 u).length → w'.cell? ⟨g, j, none⟩ = some (.int .u8 ((decR 20 u).getD j 0))) ∧ Below w.heap.size w w' := by
  have hne : (u == 0) = false := beq_eq_false_iff_ne.2 (by omega)
  obtain ⟨T, HT⟩ : ∃ T, Aside (decR 20 u = T) := ⟨_, rfl⟩
  have hlp := ltPow_20 u (by omega)
  have LP : Aside (ltPow 20 u) := hlp
  rw [HT.out]
  have R0 : Aside ((w.alloc (.cells #[.int .u8 0, .int .u8 0, .int .u8 0, .int .u8 0, .int .u8 0, .int .u8 0, .int .u8 0, .int .u8 0, .int .u8 0, .int .u8 0, .int .u8 0, .int .u8 0, .int .u8 0, .int .u8 0, .int .u8 0, .int .u8 0, .int .u8 0, .int .u8 0, .int .u8 0, .int .u8 0] 41)).rowIs w.heap.size 41 20 (fun _ => .int .u8 0) ∧ Below w.heap.size w (w.alloc (.cells #[.int .u8 0, .int .u8 0, .int .u8 0, .int .u8 0, .int .u8 0, .int .u8 0, .int .u8 0, .int .u8 0, .int .u8 0, .int .u8 0, .int .u8 0, .int .u8 0, .int .u8 0, .int .u8 0, .int .u8 0, .int .u8 0, .int .u8 0, .int .u8 0, .int .u8 0, .int .u8 0] 41))) := by
    refine ⟨World.rowIs_alloc w _ 41 _ (fun i hi => ?_), (Below.refl _ _).alloc (Nat.le_refl _) _⟩
    have : i < 20 := hi
    have : i = 0 ∨ i = 1 ∨ i = 2 ∨ i = 3 ∨ i = 4 ∨ i = 5 ∨ i = 6 ∨ i = 7 ∨ i = 8 ∨ i = 9 ∨ i = 10 ∨ i = 11 ∨ i = 12 ∨ i = 13 ∨ i = 14 ∨ i = 15 ∨ i = 16 ∨ i = 17 ∨ i = 18 ∨ i = 19 := by omega
    rcases this with h | h | h | h | h | h | h | h | h | h | h | h | h | h | h | h | h | h | h | h <;> subst h <;> rfl
  clear hlp
  go_enter Try.func8, Try.ntmps8
  go_upto_block 0 with fail
  generalize hW : w.alloc (.cells #[.int .u8 0, .int .u8 0, .int .u8 0, .int .u8 0, .int .u8 0, .int .u8 0, .int .u8 0, .int .u8 0, .int .u8 0, .int .u8 0, .int .u8 0, .int .u8 0, .int .u8 0, .int .u8 0, .int .u8 0, .int .u8 0, .int .u8 0, .int .u8 0, .int .u8 0, .int .u8 0] 41) = W at *
  clear hW
  go_cut [0, 4] (fun s0 s4 wc => ∃ i : Nat, s4 = .int .i64 i ∧ i < 20 ∧ T.length = 20 - i ∧ wc.rowIs w.heap.size 41 20 (fun j => if j < i then .int .u8 0 else .int .u8 (T.getD (j - i) 0)) ∧ Below w.heap.size w wc)
  case first =>
    go_wp2_with fail
    go_loopg [0, 4] 20 (fun g s0 s4 wr => ∃ (i : Nat) (x : Int) (low : List Int), s0 = .int .u64 x ∧ s4 = .int .i64 i ∧ 0 ≤ x ∧ x ≤ 18446744073709551615 ∧ i ≤ 20 ∧ i ≤ g ∧ (x = 0 → i < 20) ∧ ltPow i x ∧ decR i x ++ low = T ∧ low.length = 20 - i ∧ wr.rowIs w.heap.size 41 20 (fun j => if j < i then .int .u8 0 else .int .u8 (low.getD (j - i) 0)) ∧ Below w.heap.size w wr)
    case atStart => exact ⟨20, u, [], rfl, rfl, by omega, h1, Nat.le_refl _, Nat.le_refl _, fun h => by omega, LP.out, by rw [List.append_nil]; exact HT.out, rfl, R0.out.1.congr (fun i hi => by rw [if_pos hi]), R0.out.2⟩
    case round =>
      obtain ⟨i, x, low, rfl, rfl, hx0, hx1, hi, hg, hx20, hlp, hT, hlow, hrow, hbel⟩ := hrel
      by_cases hpos : 0 < x
      · have hi0 : 0 < i := by
          cases i with
          | zero => have : x < 1 := hlp
                    omega
          | succ i => omega
        obtain ⟨j, rfl⟩ : ∃ j, i = j + 1 := ⟨i - 1, by omega⟩
        obtain ⟨v, hv⟩ : ∃ v, wr.cell? ⟨w.heap.size, j, none⟩ = some v := ⟨_, hrow.cell (by omega)⟩
        have hfz : wr.frozen? ⟨w.heap.size, j, none⟩ = false := hrow.frozen j
        have Z : Aside (ltPow (j + 1) x ∧ decR (j + 1) x ++ low = T ∧ low.length = 20 - (j + 1) ∧ wr.rowIs w.heap.size 41 20 (fun k => if k < j + 1 then .int .u8 0 else .int .u8 (low.getD (k - (j + 1)) 0)) ∧ Below w.heap.size w wr) := ⟨hlp, hT, hlow, hrow, hbel⟩
        clear hlp hT hlow hrow hbel hx20
        go_wp2_with fail
        go_roundg j
        case measure => omega
        case rel =>
          obtain ⟨hlp, hT, hlow, hrow, hbel⟩ := Z.out
          refine ⟨j, x / 10, (48 + x % 10) :: low, rfl, by go_num, by omega, by omega, by omega, Nat.le_refl _, fun _ => by omega, hlp, ?_, by simp [hlow]; omega, (hrow.set j (.int .u8 (48 + x % 10))).congr (fun k hk => ?_), hbel.setCell (Nat.le_refl _) _⟩
          · rw [← hT, decR_step j x (by omega), List.append_assoc]; rfl
          · by_cases e : k = j
            · subst e; rw [if_pos rfl, if_neg (Nat.lt_irrefl _), Nat.sub_self]; rfl
            · by_cases e2 : k < j
              · rw [if_neg e, if_pos (by omega), if_pos e2]
              · rw [if_neg e, if_neg (by omega), if_neg e2, show k - j = k - (j + 1) + 1 from by omega]; rfl
      · have hx : x = 0 := by omega
        subst hx
        have hi20 := hx20 rfl
        clear hx20
        have Z : Aside (decR i 0 ++ low = T ∧ low.length = 20 - i ∧ wr.rowIs w.heap.size 41 20 (fun j => if j < i then .int .u8 0 else .int .u8 (low.getD (j - i) 0)) ∧ Below w.heap.size w wr) := ⟨hT, hlow, hrow, hbel⟩
        clear hT hlow hrow hbel hlp
        go_wp2_with fail
        go_meet
        case rel =>
          obtain ⟨hT, hlow, hrow, hbel⟩ := Z.out
          rw [decR_zero, List.nil_append] at hT
          subst hT
          exact ⟨i, rfl, hi20, hlow, hrow, hbel⟩
  case rest =>
    obtain ⟨i, rfl, hi, hlen, hrow, hbel⟩ := hcut
    clear R0 hne h1 h0 LP
    have Z : Aside (T.length = 20 - i ∧ wc.rowIs w.heap.size 41 20 (fun j => if j < i then .int .u8 0 else .int .u8 (T.getD (j - i) 0)) ∧ Below w.heap.size w wc) := ⟨hlen, hrow, hbel⟩
    clear hlen hrow hbel
    go_wp2_with (at_make; refine wpList_mk _ rfl _ _ rfl _ (20 - i) rfl rfl (by omega) (by omega) ?_; intro w1 hb1; have B1 : Aside (Bld wc (20 - i) w1 0 []) := hb1; clear hb1)
    go_loopg [5, 6] 20 (fun g s5 s6 wr => ∃ k : Nat, s5 = .slice (some ⟨wc.heap.size, 0, none⟩) k (20 - i) ∧ s6 = .int .i64 ((i + k : Nat) : Int) ∧ i + k ≤ 20 ∧ 20 - (i + k) ≤ g ∧ Bld wc (20 - i) wr k (T.take k))
    case atStart => exact ⟨0, rfl, rfl, by omega, by omega, B1.out⟩
    case round =>
      obtain ⟨k, rfl, rfl, hk, hg, hb⟩ := hrel
      have B : Aside (Bld wc (20 - i) wr k (T.take k)) := hb
      clear hb B1
      by_cases hlt : i + k < 20
      · have hcb : wr.cell? ⟨w.heap.size, i + k, none⟩ = some (.int .u8 (T.getD k 0)) := by
          rw [B.out.bel.cell (p := ⟨w.heap.size, i + k, none⟩) (by exact Z.out.2.1.lt), Z.out.2.1.cell hlt, if_neg (by omega), show i + k - i = k from by omega]
        have HT2 : Aside (T.take k ++ [T.getD k 0] = T.take (k + 1)) := take_getD T k (by have := Z.out.1; omega)
        generalize T.getD k 0 = y at hcb HT2
        go_wp2_with (at_builtin; refine wpList_app _ rfl _ _ rfl wc (20 - i) k _ rfl (B.out.alloc _) ⟨wr.heap.size, 0, none⟩ 1 1 [y] rfl rfl (lit_cells wr [y]) (by omega) ?_; intro w2 hb2; have B2 : Aside (Bld wc (20 - i) w2 (k + 1) (T.take k ++ [y])) := hb2; clear hb2)
        go_roundg (20 - (i + k + 1))
        case measure => omega
        case rel => exact ⟨k + 1, rfl, by go_num, by omega, by omega, by rw [← HT2.out]; exact B2.out⟩
      · go_wp2_with fail
        go_ret
        have e : k = T.length := by have := Z.out.1; omega
        have hb := B.out
        rw [e, List.take_length] at hb
        rw [e]
        exact ⟨_, _, rfl, Z.out.2.2.size, hb.lt, hb.cap.1, hb.cap.2, fun j hj => hb.cell j hj, Z.out.2.2.trans (hb.bel.mono Z.out.2.2.size)⟩

/-- zzDigits, at every number. -/
theorem digits_any (u : Int) (w : World) (h0 : 0 ≤ u) (h1 : u ≤ 18446744073709551615) :
    Calls Try.prog 8 #[.int .u64 u] w fun e w' => ∃ g cap, e = .returned (.slice (some ⟨g, 0, none⟩) (decL u).length cap) ∧ w.heap.size ≤ g ∧ g < w'.heap.size ∧ (decL u).length ≤ cap ∧ cap ≤ 9223372036854775807 ∧
      (∀ j, j < (decL u).length → w'.cell? ⟨g, j, none⟩ = some (.int .u8 ((decL u).getD j 0))) ∧ Below w.heap.size w w' := by
  by_cases hz : u = 0
  · subst hz
    refine (digits_zero w).mono ?_
    rintro e w' ⟨rfl, rfl⟩
    refine ⟨_, 1, rfl, Nat.le_refl _, by simp, by decide, by omega, fun j hj => ?_, (Below.refl _ _).alloc (Nat.le_refl _) _⟩
    have : j = 0 := by
      have : (decL 0).length = 1 := rfl
      omega
    subst this
    simp [decL]
  · have e : decL u = decR 20 u := by unfold decL; rw [if_neg hz]
    rw [e]
    exact digits_pos u w (by omega) h1

end Go.Proofs.Qxb6629257a.W
