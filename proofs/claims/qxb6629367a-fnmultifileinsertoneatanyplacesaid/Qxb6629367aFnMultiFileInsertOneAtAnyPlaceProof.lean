/-
  THE PROOF OF 'Rows.FnMultiFileInsertOneAtAnyPlaceSaid': the frame of the guide's shells turned to a string, two slices of structs of three cells and one such struct. Not trusted: Lean checks it.
-/
import Derived.Test.Qxb6629367aRows
import Derived.Test.Qxb6629367aLawB
import Derived.WalkKit
import Derived.ProofKit
import Derived.OpenShut
import Derived.ShutString
import Derived.ChangeOld
import Derived.Below
import Derived.Deep.SlicePairs
namespace Go.Proofs.Qxb6629367a.fnMultiFileInsertOneAtAnyPlace
open Go.ChangeShapes Go.WideShapes Go.ChangeAt Go.RowKit
open Go.ChangeMaps (open_string shut_string)
set_option linter.unusedVariables false

theorem own : ownKnob Try.prog.godebug = none := by kernel_rfl
theorem laidOut : laidOutB Try.prog = true := by kernel_rfl

/-- A slice of structs of three one-cell fields, opened at every index that is read. -/
theorem open_triples {H : Type} {enc : TypeId × Value → H} {P : Program} {w : World} {base : Nat} {spare : Nat → Bool} {held : Bool} {t e : TypeId} {f0 f1 f2 : Field} {fuel : Nat} {cs : List Value} {x : DataW H × List MemPlace} (ht : P.underlying t = some (.slice e)) (he : P.underlying e = some (.struct #[f0, f1, f2]))
    (ce : P.cellsOf e = 3) (o0 : f0.offset = 0) (o1 : f1.offset = 1) (o2 : f2.offset = 2) (c0 : P.cellsOf f0.type = 1) (c1 : P.cellsOf f1.type = 1) (c2 : P.cellsOf f2.type = 1)
    (h : DataW.trod enc P w base spare held fuel t cs = some x) :
    cs = [.slice none 0 0] ∨
    ∃ (a : Addr) (len cap m : Nat), cs = [.slice (some a) len cap] ∧ len ≤ m ∧
      ∀ i, i < m → ∃ (v0 v1 v2 : Value) (n : Nat) (y0 y1 y2 : DataW H × List MemPlace), w.cell? (a.add (i * 3)) = some v0 ∧ w.cell? (a.add (i * 3 + 1)) = some v1 ∧ w.cell? (a.add (i * 3 + 2)) = some v2 ∧
        DataW.trod enc P w base spare held n f0.type [v0] = some y0 ∧ DataW.trod enc P w base spare held n f1.type [v1] = some y1 ∧ DataW.trod enc P w base spare held n f2.type [v2] = some y2 := by
  rcases Go.Deep.open_slice ht h with h0 | ⟨a, len, cap, m, n, D, Pl, rfl, hb, hl, hm, hmm, rfl, hx⟩
  · exact Or.inl h0.1
  right
  have hlm : len ≤ m := by rw [hmm]; split <;> omega
  refine ⟨a, len, cap, m, rfl, hlm, fun i hi => ?_⟩
  obtain ⟨cs', h1, h2⟩ := hx i hi
  rw [ce] at h1
  obtain ⟨_, hlen, hcell⟩ := World.cells?_some h1
  obtain ⟨xs, k, hk, hxy, _, hxl, hf⟩ := DataW.trod_struct he h2
  match xs, hxl, cs', hlen with
  | [y0, y1, y2], _, [v0, v1, v2], _ =>
    have g0 := hf 0 f0 rfl
    have g1 := hf 1 f1 rfl
    have g2 := hf 2 f2 rfl
    simp [o0, o1, o2, c0, c1, c2] at g0 g1 g2
    have e0 := hcell 0 (by omega)
    have e1 := hcell 1 (by omega)
    have e2 := hcell 2 (by omega)
    rw [Go.Deep.add_add] at e0 e1 e2
    exact ⟨v0, v1, v2, k, y0, y1, y2, by simpa using e0, by simpa using e1, by simpa using e2, g0, g1, g2⟩

/-- What the walk is told of a slice of entries that came in. -/
theorem frow {H : Type} {enc : TypeId × Value → H} {w : World} {spare : Nat → Bool} {held : Bool} {base fuel : Nat} {a : Option Addr} {len cap : Nat} {x : DataW H × List MemPlace} (h : DataW.trod enc Try.prog w base spare held fuel 22 [.slice a len cap] = some x) : ∃ A S P, W.FRow w a len A S P := by
  rcases open_triples Try.underlying22 Try.underlying26 (by kernel_rfl) rfl rfl rfl (by kernel_rfl) (by kernel_rfl) (by kernel_rfl) h with hcs | ⟨y, l, c, m, hcs, hlm, hall⟩
  · cases hcs
    exact ⟨fun _ => 0, fun _ => ⟨#[]⟩, fun _ => false, ⟨fun h => absurd h (Nat.lt_irrefl _)⟩⟩
  · cases hcs
    have each : ∀ i, i < len → ∃ q : Int × ByteArray × Bool, w.cell? (y.add (i * 3)) = some (.int .i64 q.1) ∧ w.cell? (y.add (i * 3 + 1)) = some (.string q.2.1) ∧ w.cell? (y.add (i * 3 + 2)) = some (.bool q.2.2) := by
      intro i hi
      obtain ⟨v0, v1, v2, n, y0, y1, y2, k0, k1, k2, t0, t1, t2⟩ := hall i (by omega)
      obtain ⟨z, hz, _, _⟩ := DataW.trod_int Try.underlying2 t0
      obtain ⟨s, hs, _⟩ := DataW.trod_string Try.underlying9 t1
      obtain ⟨b, hb, _⟩ := DataW.trod_bool Try.underlying4 t2
      cases hz
      cases hs
      cases hb
      exact ⟨(z, s, b), k0, k1, k2⟩
    obtain ⟨q, hq⟩ := Go.Deep.choose_lt each
    refine ⟨fun i => (q i).1, fun i => (q i).2.1, fun i => (q i).2.2, ⟨fun h0 => ?_⟩⟩
    obtain ⟨b, off, spot⟩ := y
    have hspot : spot = none := by simpa [Addr.add] using World.cell?_spot (hq 0 h0).1
    subst hspot
    refine ⟨b, off, rfl, ?_, fun i hi => ?_, fun i hi => ?_, fun i hi => ?_⟩
    · have := (hq 0 h0).1
      rw [Go.WideShapes.add_plain] at this
      exact World.block_lt_of_cell? _ _ this
    · have := (hq i hi).1
      rwa [Go.WideShapes.add_plain] at this
    · have := (hq i hi).2.1
      rwa [Go.WideShapes.add_plain, ← Nat.add_assoc] at this
    · have := (hq i hi).2.2
      rwa [Go.WideShapes.add_plain, ← Nat.add_assoc] at this

/-- What the walk is told of an entry that came in. -/
theorem fone {H : Type} {enc : TypeId × Value → H} {w : World} {spare : Nat → Bool} {held : Bool} {base fuel : Nat} {cs : Array Value} {x : DataW H × List MemPlace} (h : DataW.trod enc Try.prog w base spare held fuel 26 cs.toList = some x) : ∃ l s p, cs = #[.int .i64 l, .string s, .bool p] := by
  obtain ⟨xs, k, _, _, hlen, hxl, hf⟩ := DataW.trod_struct Try.underlying26 h
  rw [show Try.prog.cellsOf 26 = 3 from by kernel_rfl] at hlen
  obtain ⟨cl⟩ := cs
  match xs, hxl, cl, hlen with
  | [y0, y1, y2], _, [v0, v1, v2], _ =>
    have g0 := hf 0 _ rfl
    have g1 := hf 1 _ rfl
    have g2 := hf 2 _ rfl
    have c2 : Try.prog.cellsOf 2 = 1 := by kernel_rfl
    have c9 : Try.prog.cellsOf 9 = 1 := by kernel_rfl
    have c4 : Try.prog.cellsOf 4 = 1 := by kernel_rfl
    simp [c2, c9, c4] at g0 g1 g2
    obtain ⟨z, hz, _, _⟩ := DataW.trod_int Try.underlying2 g0
    obtain ⟨s, hs, _⟩ := DataW.trod_string Try.underlying9 g1
    obtain ⟨b, hb, _⟩ := DataW.trod_bool Try.underlying4 g2
    cases hz
    cases hs
    cases hb
    exact ⟨z, s, b, rfl⟩

set_option maxRecDepth 100000 in
theorem lifted (os : Os) (started : os.Started) (H : Type) (enc : TypeId × Value → H) :
    ReturnsInHanded {} Try.checked os 4 .any (Rows.fnMultiFileInsertOneAtAnyPlaceSpec.pre6 enc Try.prog Try.f4 Rows.fnMultiFileInsertOneAtAnyPlaceRow.domain false) (Rows.fnMultiFileInsertOneAtAnyPlaceSpec.post enc Try.prog Try.f4 false true false false) := by
  refine returnsInHanded_of_change (C := Try.checked) own started (by kernel_rfl) Try.func4
    (ChangeSpec.witness6 (enc := enc) (C := Try.checked) false ⟨#[], #[.string ⟨#[]⟩, .slice none 0 0, .agg #[.int .i64 0, .string ⟨#[]⟩, .bool false], .slice none 0 0], []⟩ 8 (by kernel_rfl) (by kernel_rfl) (by kernel_rfl) (by kernel_rfl)) ?_
  intro W base args ds gs before hval0 hW hcnd _
  have hval : ∀ (j : Nat) t v, Try.f4.params[j]? = some t → args[j]? = some v → Value.okWide Try.prog W .any base t v := hval0
  have hW' := hW
  obtain ⟨p, q, hA0, hV, rfl, hfz, hnd⟩ := hW
  have hA : DataW.TrodAll enc Try.prog W 0 (fun _ => true) true Try.f4.params.toList args.toList ds p := hA0
  rw [Try.params4] at hA hval
  obtain ⟨v0, vs0, d0, ds0, p0, q0, hargs, rfl, rfl, h0, r0⟩ := trodAll_cons hA
  obtain ⟨v1, vs1, d1, ds1, p1, q1, rfl, rfl, rfl, h1, r1⟩ := trodAll_cons r0
  obtain ⟨v2, vs2, d2, ds2, p2, q2, rfl, rfl, rfl, h2, r2⟩ := trodAll_cons r1
  obtain ⟨v3, vs3, d3, ds3, p3, q3, rfl, rfl, rfl, h3, r3⟩ := trodAll_cons r2
  obtain ⟨rfl, rfl, rfl⟩ := trodAll_nil r3
  obtain rfl : args = #[v0, v1, v2, v3] := by cases args; simp_all
  obtain ⟨rfl, rfl⟩ := trodVars_none hV
  obtain ⟨s0, rfl⟩ := okWide_string Try.underlying9 (hval 0 9 v0 rfl rfl)
  obtain ⟨a1, len1, cap1, rfl⟩ := okWide_slice Try.underlying22 (hval 1 22 v1 rfl rfl)
  obtain ⟨c2, rfl, _⟩ := okWide_struct Try.underlying26 (hval 2 26 v2 rfl rfl)
  obtain ⟨a3, len3, cap3, rfl⟩ := okWide_slice Try.underlying22 (hval 3 22 v3 rfl rfl)
  have k0 := h0
  have k1 := h1
  have k2 := h2
  have k3 := h3
  have lt0 : ∀ x ∈ p0, x.block < W.heap.size := by obtain ⟨m, hm⟩ := k0; exact DataW.trod_lt m _ _ _ hm
  have lt1 : ∀ x ∈ p1, x.block < W.heap.size := by obtain ⟨m, hm⟩ := k1; exact DataW.trod_lt m _ _ _ hm
  have lt2 : ∀ x ∈ p2, x.block < W.heap.size := by obtain ⟨m, hm⟩ := k2; exact DataW.trod_lt m _ _ _ hm
  have lt3 : ∀ x ∈ p3, x.block < W.heap.size := by obtain ⟨m, hm⟩ := k3; exact DataW.trod_lt m _ _ _ hm
  obtain ⟨A1, S1, P1, R1⟩ : ∃ A S P, _root_.Go.Proofs.Qxb6629367a.W.FRow W a1 len1 A S P := by
    obtain ⟨fuel, hf⟩ := h1
    exact frow hf
  obtain ⟨le, se, pe, rfl⟩ : ∃ l s p, c2 = #[.int .i64 l, .string s, .bool p] := by
    obtain ⟨fuel, hf⟩ := h2
    exact fone hf
  obtain ⟨A3, S3, P3, R3⟩ : ∃ A S P, _root_.Go.Proofs.Qxb6629367a.W.FRow W a3 len3 A S P := by
    obtain ⟨fuel, hf⟩ := h3
    exact frow hf
  clear hA0 hval0
  refine (_root_.Go.Proofs.Qxb6629367a.W.lawB s0 a1 a3 len1 cap1 len3 cap3 le se pe A1 A3 S1 S3 P1 P3 W R1 R3).mono fun e W' ⟨he, bel⟩ => ?_
  subst he
  exact ⟨_, rfl, _, _, _, [], _, [], hW', trodAll_mk1 (shut_bool Try.underlying4 _), (trodAll_cons_mk (Below.trod laidOut (by kernel_rfl) (of_decide_eq_true (by kernel_rfl)) k0 bel lt0) (trodAll_cons_mk (Below.trod laidOut (by kernel_rfl) (of_decide_eq_true (by kernel_rfl)) k1 bel lt1) (trodAll_cons_mk (Below.trod laidOut (by kernel_rfl) (of_decide_eq_true (by kernel_rfl)) k2 bel lt2) (trodAll_cons_mk (Below.trod laidOut (by kernel_rfl) (of_decide_eq_true (by kernel_rfl)) k3 bel lt3) trodAll_mk0)))), rfl, bel.frame _, fun h => by cases h⟩

theorem over : Rows.fnMultiFileInsertOneAtAnyPlaceRow.holds Try.pinned (OpenSpec.ofChange Rows.fnMultiFileInsertOneAtAnyPlaceSpec) :=
  OpenClaim.holds_of_wide 4 Try.f4 rfl rfl rfl rfl rfl rfl rfl ⟨rfl, rfl, rfl, rfl, rfl⟩ rfl rfl rfl rfl rfl (by kernel_rfl) Try.func4 (by kernel_rfl)
    (of_decide_eq_true (by kernel_rfl)) (by unfold Func.isWrapper; first | (rw [if_pos (by decide +kernel)]; kernel_rfl) | (rw [if_neg (by decide +kernel)]; exact ⟨rfl, rfl⟩))
    (fun os started H enc _ => lifted os started H enc)

/-- ████ THE STATEMENT ████ -/
theorem proved : Rows.FnMultiFileInsertOneAtAnyPlaceSaid := over
end Go.Proofs.Qxb6629367a.fnMultiFileInsertOneAtAnyPlace
