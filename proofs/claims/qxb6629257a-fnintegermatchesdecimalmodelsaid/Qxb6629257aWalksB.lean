import Derived.Test.Qxb6629257aPlainA
import Derived.Deep.DeepCutAuto
import Derived.Deep.CutBlock
namespace Go.Proofs.Qxb6629257a.W
open Go.RowKit
set_option linter.unusedVariables false
set_option maxRecDepth 100000

/-- The world in the midst of 'number', called in w0: the walker at C stands at i; block w0.heap.size is the result's box (nothing in it yet), the next the numeral that is gathered. -/
structure NS (w0 W : World) (C : Nat) (a : Option Addr) (n c i : Nat) (nv wv fv ev : Value) : Prop where
  here : At W C a n c i
  os : W.os = w0.os
  tape : W.tape = w0.tape
  output : W.output = w0.output
  size : W.heap.size = w0.heap.size + 2
  old : ∀ k, k < w0.heap.size → k ≠ C → W.heap[k]? = w0.heap[k]?
  res : W.heap[w0.heap.size]? = some (.cells #[.bool false, .slice none 0 0, .slice none 0 0, .slice none 0 0] 35)
  num : W.heap[w0.heap.size + 1]? = some (.cells #[nv, wv, fv, ev] 35)
  lt : C < w0.heap.size

theorem NS.moved {w0 W W' : World} {C : Nat} {a : Option Addr} {n c i j : Nat} {nv wv fv ev : Value} (h : NS w0 W C a n c i nv wv fv ev) (m : Moved C W W' j) : NS w0 W' C a n c j nv wv fv ev := by
  have hlt := h.lt
  exact ⟨h.here.moved m, m.os.trans h.os, m.tape.trans h.tape, m.output.trans h.output, m.size.trans h.size, fun k a b => (m.block k b).trans (h.old k a b), (m.block _ (by omega)).trans h.res, (m.block _ (by omega)).trans h.num, hlt⟩

theorem NS.drewN {w0 W : World} {C : Nat} {a : Option Addr} {n c i : Nat} {nv wv fv ev : Value} (h : NS w0 W C a n c i nv wv fv ev) (q : Nat) : NS w0 (W.drewN q) C a n c i nv wv fv ev :=
  ⟨⟨h.here.data, h.here.next, h.here.frz⟩, h.os, h.tape, h.output, h.size, h.old, h.res, h.num, h.lt⟩

theorem NS.drew {w0 W : World} {C : Nat} {a : Option Addr} {n c i : Nat} {nv wv fv ev : Value} (h : NS w0 W C a n c i nv wv fv ev) : NS w0 W.drew C a n c i nv wv fv ev :=
  ⟨⟨h.here.data, h.here.next, h.here.frz⟩, h.os, h.tape, h.output, h.size, h.old, h.res, h.num, h.lt⟩

theorem cell_of_cells {W : World} {b k : Nat} {t : TypeId} {cs : Array Value} {v : Value} (h : W.heap[b]? = some (.cells cs t)) (hk : cs[k]? = some v) : W.cell? ⟨b, k, none⟩ = some v := by
  simp [World.cell?, h, hk]

theorem frozen_of_cells {W : World} {b k : Nat} {t : TypeId} {cs : Array Value} (h : W.heap[b]? = some (.cells cs t)) : W.frozen? ⟨b, k, none⟩ = false := by
  simp [World.frozen?, h]

theorem heap_set_same {W : World} {b k : Nat} {t : TypeId} {cs : Array Value} {v : Value} (h : W.heap[b]? = some (.cells cs t)) : (W.setCell ⟨b, k, none⟩ v).heap[b]? = some (.cells (cs.setIfInBounds k v) t) := by
  simp [World.setCell, Array.getElem?_modify, h]

theorem At.other {W : World} {C : Nat} {a : Option Addr} {n c i : Nat} (h : At W C a n c i) {p : Addr} (hp : C ≠ p.block) (v : Value) : At (W.setCell p v) C a n c i := by
  have e := Below.heap_setCell W p v C hp
  exact ⟨(World.cell?_of_block (w := W) (a := ⟨C, 0, none⟩) e).trans h.data, (World.cell?_of_block (w := W) (a := ⟨C, 1, none⟩) e).trans h.next, (World.frozen?_of_block (w := W) (a := ⟨C, 1, none⟩) e).trans h.frz⟩

theorem NS.setN {w0 W : World} {C : Nat} {a : Option Addr} {n c i : Nat} {nv wv fv ev nv' wv' fv' ev' : Value} (h : NS w0 W C a n c i nv wv fv ev) (k : Nat) (v : Value)
    (e : (#[nv, wv, fv, ev] : Array Value).setIfInBounds k v = #[nv', wv', fv', ev']) : NS w0 (W.setCell ⟨w0.heap.size + 1, k, none⟩ v) C a n c i nv' wv' fv' ev' := by
  have hlt := h.lt
  refine ⟨h.here.other (by simp; omega) v, h.os, h.tape, h.output, by simpa using h.size, fun x a b => (Below.heap_setCell _ _ _ _ (by simp; omega)).trans (h.old x a b), (Below.heap_setCell _ _ _ _ (by simp)).trans h.res, ?_, hlt⟩
  rw [heap_set_same h.num, e]

/-- The world behind 'number'. -/
structure NOut (w0 W : World) (C i : Nat) : Prop where
  os : W.os = w0.os
  tape : W.tape = w0.tape
  output : W.output = w0.output
  size : w0.heap.size ≤ W.heap.size
  old : ∀ k, k < w0.heap.size → k ≠ C → W.heap[k]? = w0.heap[k]?
  next : W.cell? ⟨C, 1, none⟩ = some (.int .i64 i)

theorem NS.out {w0 W : World} {C : Nat} {a : Option Addr} {n c i : Nat} {nv wv fv ev : Value} (h : NS w0 W C a n c i nv wv fv ev) : NOut w0 W C i ∧ C < w0.heap.size :=
  ⟨⟨h.os, h.tape, h.output, by have := h.size; omega, h.old, h.here.next⟩, h.lt⟩

theorem NOut.setCell {w0 W : World} {C i : Nat} (h : NOut w0 W C i ∧ C < w0.heap.size) {p : Addr} (hp : w0.heap.size ≤ p.block) (v : Value) : NOut w0 (W.setCell p v) C i ∧ C < w0.heap.size := by
  obtain ⟨h, hlt⟩ := h
  refine ⟨⟨h.os, h.tape, h.output, by simpa using h.size, fun k a b => (Below.heap_setCell _ _ _ _ (by omega)).trans (h.old k a b), ?_⟩, hlt⟩
  exact (World.cell?_of_block (w := W) (a := ⟨C, 1, none⟩) (Below.heap_setCell _ _ _ _ (by show C ≠ p.block; omega))).trans h.next

theorem NOut.drewN {w0 W : World} {C i : Nat} (h : NOut w0 W C i ∧ C < w0.heap.size) (q : Nat) : NOut w0 (W.drewN q) C i ∧ C < w0.heap.size :=
  ⟨⟨h.1.os, h.1.tape, h.1.output, h.1.size, h.1.old, h.1.next⟩, h.2⟩

theorem NS.facts {w0 W : World} {C : Nat} {a : Option Addr} {n c i : Nat} {nv wv fv ev : Value} (h : NS w0 W C a n c i nv wv fv ev) :
    W.cell? ⟨w0.heap.size + 1, 0, none⟩ = some nv ∧ W.cell? ⟨w0.heap.size + 1, 1, none⟩ = some wv ∧ W.cell? ⟨w0.heap.size + 1, 2, none⟩ = some fv ∧ W.cell? ⟨w0.heap.size + 1, 3, none⟩ = some ev ∧
    W.cell? ⟨w0.heap.size, 0, none⟩ = some (.bool false) ∧ W.cell? ⟨w0.heap.size, 1, none⟩ = some (.slice none 0 0) ∧ W.cell? ⟨w0.heap.size, 2, none⟩ = some (.slice none 0 0) ∧ W.cell? ⟨w0.heap.size, 3, none⟩ = some (.slice none 0 0) ∧
    W.frozen? ⟨w0.heap.size, 0, none⟩ = false ∧ W.frozen? ⟨w0.heap.size, 1, none⟩ = false ∧ W.frozen? ⟨w0.heap.size, 2, none⟩ = false ∧ W.frozen? ⟨w0.heap.size, 3, none⟩ = false :=
  ⟨cell_of_cells h.num rfl, cell_of_cells h.num rfl, cell_of_cells h.num rfl, cell_of_cells h.num rfl, cell_of_cells h.res rfl, cell_of_cells h.res rfl, cell_of_cells h.res rfl, cell_of_cells h.res rfl, frozen_of_cells h.res, frozen_of_cells h.res, frozen_of_cells h.res, frozen_of_cells h.res⟩

/-- The result laid into its box. -/
theorem NS.done {w0 W : World} {C : Nat} {a : Option Addr} {n c i : Nat} {nv wv fv ev v0 v1 v2 v3 : Value} (h : NS w0 W C a n c i nv wv fv ev) :
    NOut w0 ((((W.setCell ⟨w0.heap.size, 0, none⟩ v0).setCell ⟨w0.heap.size, 1, none⟩ v1).setCell ⟨w0.heap.size, 2, none⟩ v2).setCell ⟨w0.heap.size, 3, none⟩ v3) C i :=
  (NOut.setCell (NOut.setCell (NOut.setCell (NOut.setCell h.out (Nat.le_refl _) v0) (Nat.le_refl _) v1) (Nat.le_refl _) v2) (Nat.le_refl _) v3).1

theorem NS.text {w0 W : World} {C b off : Nat} {a : Option Addr} {n c i : Nat} {nv wv fv ev : Value} {t : Nat → Int} (h : NS w0 W C a n c i nv wv fv ev) (T : Text w0 b off n t) (hb : b < w0.heap.size) (hbC : b ≠ C) : Text W b off n t :=
  ⟨fun j hj => (World.cell?_of_block (w := w0) (a := ⟨b, off + j, none⟩) (h.old b hb hbC)).trans (T.cells j hj)⟩

def fracV (t : Nat → Int) (n b off c : Nat) : Value := if pDot t n then .slice (some ⟨b, off + pFs t n, none⟩) (pFe t n - pFs t n) (c - pFs t n) else .slice none 0 0
def expV (t : Nat → Int) (n b off c : Nat) : Value := if pExp t n then .slice (some ⟨b, off + pEs t n, none⟩) (pEe t n - pEs t n) (c - pEs t n) else .slice none 0 0
def wholeV (t : Nat → Int) (n b off c : Nat) : Value := .slice (some ⟨b, off + pWs t n, none⟩) (pWe t n - pWs t n) (c - pWs t n)

/-- What 'number' hands back. -/
def NumRes (t : Nat → Int) (n b off c C : Nat) (w : World) (e : Ending) (w' : World) : Prop :=
  (¬ okNum t n ∧ ∃ (x : Bool) (a1 : Option Addr) (n1 c1 : Nat) (a2 : Option Addr) (n2 c2 : Nat) (a3 : Option Addr) (n3 c3 i : Nat), e = .returned (.tuple #[.agg #[.bool x, .slice a1 n1 c1, .slice a2 n2 c2, .slice a3 n3 c3], .bool false]) ∧ NOut w w' C i) ∨
  (okNum t n ∧ e = .returned (.tuple #[.agg #[.bool (pNeg t n), wholeV t n b off c, fracV t n b off c, expV t n b off c], .bool true]) ∧ NOut w w' C (pEe t n))

set_option maxHeartbeats 4000000 in
theorem number_at (C b off n c : Nat) (t : Nat → Int) (w : World) (h : At w C (some ⟨b, off, none⟩) n c 0) (T : Text w b off n t) (hn : 0 < n) (hm : n ≤ 10000000) (hc : n ≤ c) (hc2 : c ≤ 9223372036854775807) (hbC : b ≠ C) (hC : C < w.heap.size) (hb : b < w.heap.size) :
    Calls Try.prog 10 #[.pointer (some ⟨C, 0, none⟩)] w (NumRes t n b off c C w) := by
  have S0 : Aside (NS w ((w.alloc (Obj.cells #[.bool false, .slice none 0 0, .slice none 0 0, .slice none 0 0] 35)).alloc (Obj.cells #[.bool false, .slice none 0 0, .slice none 0 0, .slice none 0 0] 35)) C (some ⟨b, off, none⟩) n c 0 (.bool false) (.slice none 0 0) (.slice none 0 0) (.slice none 0 0)) := by
    have B : Below w.heap.size w ((w.alloc (Obj.cells #[.bool false, .slice none 0 0, .slice none 0 0, .slice none 0 0] 35)).alloc (Obj.cells #[.bool false, .slice none 0 0, .slice none 0 0, .slice none 0 0] 35)) := ((Below.refl _ _).alloc (Nat.le_refl _) _).alloc (by simp) _
    refine ⟨⟨(B.cell hC).trans h.data, (B.cell hC).trans h.next, (B.frozen hC).trans h.frz⟩, rfl, rfl, rfl, by simp, fun k a _ => B.block k a, ?_, ?_, hC⟩
    · rw [Below.heap_alloc _ _ _ (by simp)]; exact Go.Deep.blk_alloc_new _ _
    · rw [show w.heap.size + 1 = (w.alloc (Obj.cells #[.bool false, .slice none 0 0, .slice none 0 0, .slice none 0 0] 35)).heap.size from by simp]; exact Go.Deep.blk_alloc_new _ _
  have TT : Aside (Text w b off n t) := T
  clear h T
  go_enter Try.func10, Try.ntmps10
  go_wp2_with fail
  refine (skip_at C b off n c 0 45 t _ S0.out.here (S0.out.text TT.out hb hbC) hm (pNeg t n) rfl).mono ?_
  rintro _ w1 ⟨rfl, m1⟩
  have S1 := S0.out.moved m1
  change NS w w1 C (some ⟨b, off, none⟩) n c (pWs t n) _ _ _ _ at S1
  have S2 := S1.setN 0 (.bool (pNeg t n)) rfl
  have q0 := cell_of_cells (k := 0) S1.num rfl
  have q1 := frozen_of_cells (k := 0) S1.num
  have A2 : Aside (NS w (w1.setCell ⟨w.heap.size + 1, 0, none⟩ (.bool (pNeg t n))) C (some ⟨b, off, none⟩) n c (pWs t n) (.bool (pNeg t n)) (.slice none 0 0) (.slice none 0 0) (.slice none 0 0)) := S2
  have hx := S2.here.next
  clear S0 m1 S1 S2
  go_upto_block 0 with fail
  clear q0 q1 hx
  generalize hW : w1.setCell ⟨w.heap.size + 1, 0, none⟩ (.bool (pNeg t n)) = W2 at *
  clear hW
  go_cut [5] (fun s5 wc => s5 = .int .i64 (pWs t n) ∧ pWs t n < pWe t n ∧ NS w wc C (some ⟨b, off, none⟩) n c (pWe t n) (.bool (pNeg t n)) (.slice none 0 0) (.slice none 0 0) (.slice none 0 0))
  case first =>
    have hwsle := pWs_le t n
    go_wp2_with fail
    refine (skip_at C b off n c (pWs t n) 48 t _ A2.out.here (A2.out.text TT.out hb hbC) hm (pZero t n) rfl).mono ?_
    rintro _ w3 ⟨rfl, m3⟩
    have A3 : Aside (NS w w3 C (some ⟨b, off, none⟩) n c (if pZero t n then pWs t n + 1 else pWs t n) (.bool (pNeg t n)) (.slice none 0 0) (.slice none 0 0) (.slice none 0 0)) := A2.out.moved m3
    clear m3
    cases hz : pZero t n with
    | true =>
      rw [hz] at A3
      have HZ : Aside (pZero t n = true) := hz
      clear hz
      go_wp2_with fail
      go_meet
      case rel => exact ⟨rfl, by unfold pWe; rw [if_pos HZ.out]; omega, by unfold pWe; rw [if_pos HZ.out]; exact A3.out⟩
    | false =>
      rw [hz] at A3
      have HZ : Aside (pZero t n = false) := hz
      clear hz
      have hle := (pWe_run t n HZ.out).le
      have hle2 := pWe_le t n
      go_wp2_with fail
      refine (digits_at C b off n c (pWs t n) (pWe t n) t _ A3.out.here (A3.out.text TT.out hb hbC) hm hbC (pWe_run t n HZ.out)).mono ?_
      rintro _ w4 ⟨rfl, m4⟩
      have A4 : Aside (NS w w4 C (some ⟨b, off, none⟩) n c (pWe t n) (.bool (pNeg t n)) (.slice none 0 0) (.slice none 0 0) (.slice none 0 0)) := A3.out.moved m4
      clear m4
      by_cases hlt : pWs t n < pWe t n
      · go_wp2_with fail
        go_meet
        case rel => exact ⟨rfl, hlt, A4.out⟩
      · obtain ⟨e0, e1, e2, e3, r0, r1, r2, r3, f0, f1, f2, f3⟩ := A4.out.facts
        go_wp2_with fail
        exact bodyPost_ret (v := .tuple #[.agg #[.bool (pNeg t n), .slice none 0 0, .slice none 0 0, .slice none 0 0], .bool false]) (by simp [results, Try.results10, go_sem, r0, r1, r2, r3]) rfl (Or.inl ⟨fun hk => hlt hk.1, _, _, _, _, _, _, _, _, _, _, _, rfl, A4.out.done⟩)
  case rest =>
    obtain ⟨rfl, hlt, hS⟩ := hcut
    have A5 : Aside (NS w wc C (some ⟨b, off, none⟩) n c (pWe t n) (.bool (pNeg t n)) (.slice none 0 0) (.slice none 0 0) (.slice none 0 0)) := hS
    obtain ⟨hd, hx, hf⟩ := hS.here
    have hq0 : wc.cell? ⟨w.heap.size + 1, 1, none⟩ = some (.slice none 0 0) := cell_of_cells hS.num rfl
    have hq1 : wc.frozen? ⟨w.heap.size + 1, 1, none⟩ = false := frozen_of_cells hS.num
    clear hS A2
    have h1 := pWs_le t n
    have h2 := pWe_le t n
    go_wp2
    go_region
    have A6 : Aside (NS w (wc.setCell ⟨w.heap.size + 1, 1, none⟩ (.slice (some ⟨b, off + pWs t n, none⟩) (pWe t n - pWs t n) (c - pWs t n))).drew C (some ⟨b, off, none⟩) n c (pWe t n) (.bool (pNeg t n)) (wholeV t n b off c) (.slice none 0 0) (.slice none 0 0)) := (A5.out.setN 1 _ rfl).drew
    clear hd hx hf hq0 hq1 A5
    generalize hW6 : (wc.setCell ⟨w.heap.size + 1, 1, none⟩ (.slice (some ⟨b, off + pWs t n, none⟩) (pWe t n - pWs t n) (c - pWs t n))).drew = W6 at *
    clear hW6
    have LT : Aside (pWs t n < pWe t n) := hlt
    clear hlt h1
    go_upto_if 33 with (go_at_call 14; refine (skip_at C b off n c (pWe t n) 46 t _ A6.out.here (A6.out.text TT.out hb hbC) hm (pDot t n) rfl).mono ?_; rintro _ w7 ⟨rfl, m7⟩; have A7 : Aside (NS w w7 C (some ⟨b, off, none⟩) n c (pFs t n) (.bool (pNeg t n)) (wholeV t n b off c) (.slice none 0 0) (.slice none 0 0)) := A6.out.moved m7; clear m7)
    clear A6
    have h3 := pFs_le t n
    have h4 := pFe_le t n
    have h5 := pFs_le_Fe t n
    go_cut [] (fun wc => (pDot t n = true → pFs t n < pFe t n) ∧ NS w wc C (some ⟨b, off, none⟩) n c (pFe t n) (.bool (pNeg t n)) (wholeV t n b off c) (fracV t n b off c) (.slice none 0 0))
    case first =>
      cases hdot : pDot t n with
      | false =>
        have HD : Aside (pDot t n = false) := hdot
        clear hdot
        go_wp2_with fail
        go_meet
        case rel =>
          have eF : pFs t n = pFe t n := by unfold pFs pFe; rw [if_neg (by simp [HD.out]), if_neg (by simp [HD.out])]
          have eV : fracV t n b off c = .slice none 0 0 := by unfold fracV; rw [if_neg (by simp [HD.out])]
          exact ⟨fun hh => absurd (HD.out.symm.trans hh) (by decide), by rw [eV, ← eF]; exact A7.out⟩
      | true =>
        have HD : Aside (pDot t n = true) := hdot
        clear hdot
        obtain ⟨hd, hx, hf⟩ := A7.out.here
        go_wp2_with fail
        clear hd hx hf
        refine (digits_at C b off n c (pFs t n) (pFe t n) t _ A7.out.here (A7.out.text TT.out hb hbC) hm hbC (pFe_run t n HD.out)).mono ?_
        rintro _ w8 ⟨rfl, m8⟩
        have A8 : Aside (NS w w8 C (some ⟨b, off, none⟩) n c (pFe t n) (.bool (pNeg t n)) (wholeV t n b off c) (.slice none 0 0) (.slice none 0 0)) := A7.out.moved m8
        clear m8
        by_cases hlt : pFs t n < pFe t n
        · obtain ⟨hd, hx, hf⟩ := A8.out.here
          have hq0 : w8.cell? ⟨w.heap.size + 1, 2, none⟩ = some (.slice none 0 0) := cell_of_cells A8.out.num rfl
          have hq1 : w8.frozen? ⟨w.heap.size + 1, 2, none⟩ = false := frozen_of_cells A8.out.num
          go_wp2_with fail
          go_region
          go_wp2_with fail
          go_meet
          case rel =>
            have eV : fracV t n b off c = .slice (some ⟨b, off + pFs t n, none⟩) (pFe t n - pFs t n) (c - pFs t n) := by unfold fracV; rw [if_pos HD.out]
            exact ⟨fun _ => hlt, by rw [eV]; exact (A8.out.setN 2 _ rfl).drew⟩
        · obtain ⟨e0, e1, e2, e3, r0, r1, r2, r3, f0, f1, f2, f3⟩ := A8.out.facts
          unfold wholeV at e1
          go_wp2_with fail
          exact bodyPost_ret (v := .tuple #[.agg #[.bool (pNeg t n), wholeV t n b off c, .slice none 0 0, .slice none 0 0], .bool false]) (by simp [results, Try.results10, go_sem, r0, r1, r2, r3, wholeV]) rfl (Or.inl ⟨fun hk => hlt (hk.2.1 HD.out), _, _, _, _, _, _, _, _, _, _, _, rfl, A8.out.done⟩)
    case rest =>
      obtain ⟨hdd, hS⟩ := hcut
      have A9 : Aside (NS w wc C (some ⟨b, off, none⟩) n c (pFe t n) (.bool (pNeg t n)) (wholeV t n b off c) (fracV t n b off c) (.slice none 0 0)) := hS
      have DD : Aside (pDot t n = true → pFs t n < pFe t n) := hdd
      clear hS hdd A7 h5
      go_upto_region 13 with fail
      go_cut [58] (fun s58 wc => s58 = .bool (pExp t n) ∧ NS w wc C (some ⟨b, off, none⟩) n c (pEs t n) (.bool (pNeg t n)) (wholeV t n b off c) (fracV t n b off c) (.slice none 0 0))
      case first =>
        go_wp2_with fail
        refine (skip_at C b off n c (pFe t n) 101 t _ A9.out.here (A9.out.text TT.out hb hbC) hm (pE t n) rfl).mono ?_
        rintro _ w10 ⟨rfl, m10⟩
        have A10 : Aside (NS w w10 C (some ⟨b, off, none⟩) n c (if pE t n then pFe t n + 1 else pFe t n) (.bool (pNeg t n)) (wholeV t n b off c) (fracV t n b off c) (.slice none 0 0)) := A9.out.moved m10
        clear m10 A9
        cases he : pE t n with
        | true =>
          have HE : Aside (pE t n = true) := he
          rw [he] at A10
          clear he
          go_wp2_with fail
          go_meet
          case rel =>
            have e1 : pExp t n = true := by unfold pExp; rw [HE.out]; rfl
            exact ⟨by rw [e1], by unfold pEs; rw [if_pos e1]; exact A10.out⟩
        | false =>
          have HE : Aside (pE t n = false) := he
          rw [he] at A10
          clear he
          go_wp2_with fail
          refine (skip_at C b off n c (pFe t n) 69 t _ A10.out.here (A10.out.text TT.out hb hbC) hm (pE2 t n) rfl).mono ?_
          rintro _ w11 ⟨rfl, m11⟩
          have A11 : Aside (NS w w11 C (some ⟨b, off, none⟩) n c (if pE2 t n then pFe t n + 1 else pFe t n) (.bool (pNeg t n)) (wholeV t n b off c) (fracV t n b off c) (.slice none 0 0)) := A10.out.moved m11
          clear m11 A10
          go_wp2_with fail
          go_meet
          case rel =>
            have e1 : pExp t n = pE2 t n := by unfold pExp; rw [HE.out]; rfl
            exact ⟨by rw [e1], by unfold pEs; rw [e1]; exact A11.out⟩
      case rest =>
        obtain ⟨rfl, hS⟩ := hcut
        clear A9
        have A12 : Aside (NS w wc C (some ⟨b, off, none⟩) n c (pEs t n) (.bool (pNeg t n)) (wholeV t n b off c) (fracV t n b off c) (.slice none 0 0)) := hS
        clear hS
        obtain ⟨a2, n2, c2, HF⟩ : ∃ a2 n2 c2, Aside (fracV t n b off c = .slice a2 n2 c2) := by
          unfold fracV Aside
          split
          · exact ⟨_, _, _, rfl⟩
          · exact ⟨_, _, _, rfl⟩
        cases hex : pExp t n with
        | false =>
          have HX : Aside (pExp t n = false) := hex
          clear hex
          obtain ⟨e0, e1, e2, e3, r0, r1, r2, r3, f0, f1, f2, f3⟩ := A12.out.facts
          unfold wholeV at e1
          rw [HF.out] at e2
          go_wp2_with fail
          have eE : pEs t n = pEe t n := by unfold pEs pEe; rw [if_neg (by simp [HX.out]), if_neg (by simp [HX.out])]
          have eV : expV t n b off c = .slice none 0 0 := by unfold expV; rw [if_neg (by simp [HX.out])]
          refine bodyPost_ret (v := .tuple #[.agg #[.bool (pNeg t n), wholeV t n b off c, .slice a2 n2 c2, .slice none 0 0], .bool true]) (by simp [results, Try.results10, go_sem, r0, r1, r2, r3, wholeV]) rfl (Or.inr ⟨⟨LT.out, DD.out, fun hh => absurd (HX.out.symm.trans hh) (by decide)⟩, ?_, ?_⟩)
          · rw [HF.out, eV]
          · rw [← eE]; exact A12.out.done
        | true =>
          have HX : Aside (pExp t n = true) := hex
          clear hex
          obtain ⟨hd, hx, hf⟩ := A12.out.here
          have h6 := pEs_le t n
          have h7 := pDs_le t n
          have h8 := pEe_le t n
          have h9 := pEs_le_Ds t n
          have h10 := (pEe_run t n HX.out).le
          go_upto_region 15 with fail
          clear hd hx hf
          go_cut [] (fun wc => NS w wc C (some ⟨b, off, none⟩) n c (pDs t n) (.bool (pNeg t n)) (wholeV t n b off c) (fracV t n b off c) (.slice none 0 0))
          case first =>
            go_wp2_with fail
            refine (skip_at C b off n c (pEs t n) 43 t _ A12.out.here (A12.out.text TT.out hb hbC) hm (pPlus t n) rfl).mono ?_
            rintro _ w13 ⟨rfl, m13⟩
            have A13 : Aside (NS w w13 C (some ⟨b, off, none⟩) n c (if pPlus t n then pEs t n + 1 else pEs t n) (.bool (pNeg t n)) (wholeV t n b off c) (fracV t n b off c) (.slice none 0 0)) := A12.out.moved m13
            clear m13 A12
            cases he : pPlus t n with
            | true =>
              have HE : Aside (pPlus t n = true) := he
              rw [he] at A13
              clear he
              go_wp2_with fail
              go_meet
              case rel =>
                have e1 : (pPlus t n || pMinus t n) = true := by rw [HE.out]; rfl
                unfold pDs; rw [if_pos e1]; exact A13.out
            | false =>
              have HE : Aside (pPlus t n = false) := he
              rw [he] at A13
              clear he
              go_wp2_with fail
              refine (skip_at C b off n c (pEs t n) 45 t _ A13.out.here (A13.out.text TT.out hb hbC) hm (pMinus t n) rfl).mono ?_
              rintro _ w14 ⟨rfl, m14⟩
              have A14 : Aside (NS w w14 C (some ⟨b, off, none⟩) n c (if pMinus t n then pEs t n + 1 else pEs t n) (.bool (pNeg t n)) (wholeV t n b off c) (fracV t n b off c) (.slice none 0 0)) := A13.out.moved m14
              clear m14 A13
              go_wp2_with fail
              go_meet
              case rel =>
                have e1 : (pPlus t n || pMinus t n) = pMinus t n := by rw [HE.out]; rfl
                unfold pDs; rw [e1]; exact A14.out
          case rest =>
            have A15 : Aside (NS w wc C (some ⟨b, off, none⟩) n c (pDs t n) (.bool (pNeg t n)) (wholeV t n b off c) (fracV t n b off c) (.slice none 0 0)) := hcut
            clear hcut A12
            go_wp2_with fail
            refine (digits_at C b off n c (pDs t n) (pEe t n) t _ A15.out.here (A15.out.text TT.out hb hbC) hm hbC (pEe_run t n HX.out)).mono ?_
            rintro _ w16 ⟨rfl, m16⟩
            have A16 : Aside (NS w w16 C (some ⟨b, off, none⟩) n c (pEe t n) (.bool (pNeg t n)) (wholeV t n b off c) (fracV t n b off c) (.slice none 0 0)) := A15.out.moved m16
            clear m16 A15
            by_cases hlt : pDs t n < pEe t n
            · obtain ⟨hd, hx, hf⟩ := A16.out.here
              have hq0 : w16.cell? ⟨w.heap.size + 1, 3, none⟩ = some (.slice none 0 0) := cell_of_cells A16.out.num rfl
              have hq1 : w16.frozen? ⟨w.heap.size + 1, 3, none⟩ = false := frozen_of_cells A16.out.num
              have hlt2 : pEs t n < pEe t n := by omega
              go_wp2_with fail
              go_region
              clear hd hx hf hq0 hq1
              have A17 : Aside (NS w (w16.setCell ⟨w.heap.size + 1, 3, none⟩ (.slice (some ⟨b, off + pEs t n, none⟩) (pEe t n - pEs t n) (c - pEs t n))).drew C (some ⟨b, off, none⟩) n c (pEe t n) (.bool (pNeg t n)) (wholeV t n b off c) (fracV t n b off c) (.slice (some ⟨b, off + pEs t n, none⟩) (pEe t n - pEs t n) (c - pEs t n))) := (A16.out.setN 3 _ rfl).drew
              generalize hW17 : (w16.setCell ⟨w.heap.size + 1, 3, none⟩ (.slice (some ⟨b, off + pEs t n, none⟩) (pEe t n - pEs t n) (c - pEs t n))).drew = W17 at *
              clear hW17 A16
              obtain ⟨e0, e1, e2, e3, r0, r1, r2, r3, f0, f1, f2, f3⟩ := A17.out.facts
              unfold wholeV at e1
              rw [HF.out] at e2
              go_wp2_with fail
              have eV : expV t n b off c = .slice (some ⟨b, off + pEs t n, none⟩) (pEe t n - pEs t n) (c - pEs t n) := by unfold expV; rw [if_pos HX.out]
              refine bodyPost_ret (v := .tuple #[.agg #[.bool (pNeg t n), wholeV t n b off c, .slice a2 n2 c2, .slice (some ⟨b, off + pEs t n, none⟩) (pEe t n - pEs t n) (c - pEs t n)], .bool true]) (by simp [results, Try.results10, go_sem, r0, r1, r2, r3, wholeV]) rfl (Or.inr ⟨⟨LT.out, DD.out, fun _ => hlt⟩, ?_, ?_⟩)
              · rw [HF.out, eV]
              · exact A17.out.done
            · obtain ⟨e0, e1, e2, e3, r0, r1, r2, r3, f0, f1, f2, f3⟩ := A16.out.facts
              unfold wholeV at e1
              rw [HF.out] at e2
              go_wp2_with fail
              exact bodyPost_ret (v := .tuple #[.agg #[.bool (pNeg t n), wholeV t n b off c, .slice a2 n2 c2, .slice none 0 0], .bool false]) (by simp [results, Try.results10, go_sem, r0, r1, r2, r3, wholeV]) rfl (Or.inl ⟨fun hk => hlt (hk.2.2 HX.out), _, _, _, _, _, _, _, _, _, _, _, rfl, A16.out.done⟩)

end Go.Proofs.Qxb6629257a.W
