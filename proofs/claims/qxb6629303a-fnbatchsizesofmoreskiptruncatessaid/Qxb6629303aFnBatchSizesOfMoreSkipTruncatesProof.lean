/-
  THE PROOF OF 'Rows.FnBatchSizesOfMoreSkipTruncatesSaid': the frame of the guide's shells (howto/template; a shell of another row of this place) turned to a slice of structs of two cells. Not trusted: Lean checks it.
-/
import Derived.Test.Qxb6629303aRows
import Derived.Test.Qxb6629303aLawB
import Derived.WalkKit
import Derived.ProofKit
import Derived.OpenShut
import Derived.ChangeOld
import Derived.Below
import Derived.Deep.SlicePairs
namespace Go.Proofs.Qxb6629303a.fnBatchSizesOfMoreSkipTruncates
open Go.ChangeShapes Go.WideShapes Go.ChangeAt Go.RowKit
set_option linter.unusedVariables false

theorem own : ownKnob Try.prog.godebug = none := by kernel_rfl
theorem laidOut : laidOutB Try.prog = true := by kernel_rfl

/-- What the walk is told of the slice of batches that came in. -/
def IsRow (w : World) (a : Option Addr) (len cap : Nat) (N : Nat → Int) (P : Nat → Bool) : Prop :=
  (a = none → len = 0 ∧ cap = 0) ∧ W.BRow w a len N P ∧ ∀ i, i < len → N i ≤ 9223372036854775807

theorem wf64 {z : Int} (h : (Lit.int .i64 z).wf = true) : z ≤ 9223372036854775807 := by
  simp [Lit.wf, IntKind.min, IntKind.max, IntKind.signed, IntKind.bits] at h
  omega

/-- A row of pairs, opened, is a row of batches. -/
theorem brow {w : World} {a : Addr} {len : Nat} {V0 V1 : Nat → Value} (h : ∀ i, i < len → w.cell? (a.add (i * 2)) = some (V0 i) ∧ w.cell? (a.add (i * 2 + 1)) = some (V1 i) ∧ (∃ z, V0 i = .int .i64 z ∧ (Lit.int .i64 z).wf = true) ∧ ∃ b, V1 i = .bool b) :
    ∃ N P, W.BRow w (some a) len N P ∧ ∀ i, i < len → N i ≤ 9223372036854775807 := by
  refine ⟨fun i => (match V0 i with | .int _ z => z | _ => 0), fun i => (match V1 i with | .bool b => b | _ => false), ⟨fun h0 => ?_⟩, fun i hi => ?_⟩
  · obtain ⟨b, off, spot⟩ := a
    have hspot : spot = none := by simpa [Addr.add] using World.cell?_spot (h 0 h0).1
    subst hspot
    refine ⟨b, off, rfl, ?_, fun i hi => ?_, fun i hi => ?_⟩
    · have := (h 0 h0).1
      rw [Go.WideShapes.add_plain] at this
      exact World.block_lt_of_cell? _ _ this
    · obtain ⟨h1, h2, ⟨z, hz, hw⟩, c, hc⟩ := h i hi
      rw [Go.WideShapes.add_plain, hz] at h1
      simpa [hz] using h1
    · obtain ⟨h1, h2, ⟨z, hz, hw⟩, c, hc⟩ := h i hi
      rw [Go.WideShapes.add_plain, hc] at h2
      simpa [hc, Nat.add_assoc] using h2
  · obtain ⟨h1, h2, ⟨z, hz, hw⟩, c, hc⟩ := h i hi
    simp only [hz]
    exact wf64 hw

theorem walk (a0 : Option Addr) (len0 cap0 : Nat) (N : Nat → Int) (P : Nat → Bool) (a1 : Int) (a2 : Int) (a3 : Int) (w : World) (w0 : IsRow w a0 len0 cap0 N P) (w1 : (Lit.int .i64 a1).wf = true) (w2 : (Lit.int .i64 a2).wf = true) (w3 : (Lit.int .i64 a3).wf = true) :
    Calls Try.prog 4 #[.slice a0 len0 cap0, .int .i64 a1, .int .i64 a2, .int .i64 a3] w fun e w' => e = .returned (.bool true) ∧ Below w.heap.size w w' := by
  by_cases hbig : 65536 < len0
  · exact W.lawB_big _ _ _ _ _ _ _ hbig
  · exact W.lawB_any a0 len0 cap0 N P a1 a2 a3 w (by omega) w0.1 w0.2.1 w0.2.2

/-! ### THE ROW's STEP -/
set_option maxRecDepth 100000 in
theorem lifted (os : Os) (started : os.Started) (H : Type) (enc : TypeId × Value → H) :
    ReturnsInHanded {} Try.checked os 4 .any (Rows.fnBatchSizesOfMoreSkipTruncatesSpec.pre6 enc Try.prog Try.f4 Rows.fnBatchSizesOfMoreSkipTruncatesRow.domain false) (Rows.fnBatchSizesOfMoreSkipTruncatesSpec.post enc Try.prog Try.f4 false true false false) := by
  refine returnsInHanded_of_change (C := Try.checked) own started (by kernel_rfl) Try.func4
    (ChangeSpec.witness6 (enc := enc) (C := Try.checked) false ⟨#[], #[.slice none 0 0, .int .i64 0, .int .i64 0, .int .i64 0], []⟩ 8 (by kernel_rfl) (by kernel_rfl) (by kernel_rfl) (by kernel_rfl)) ?_
  intro W base args ds gs before hval0 hW hcnd _
  have hval : ∀ (j : Nat) t v, Try.f4.params[j]? = some t → args[j]? = some v → Value.okWide Try.prog W .any base t v := hval0
  have hW' := hW
  obtain ⟨p, q, hA0, hV, rfl, hfz, hnd⟩ := hW
  have hA : DataW.TrodAll enc Try.prog W 0 (fun _ => true) true Try.f4.params.toList args.toList ds p := hA0
  rw [Try.params4] at hA hval
  obtain ⟨v0, vs0, d0, ds0, p0, q0, hargs, rfl, rfl, h0, r0⟩ := trodAll_cons hA
  obtain ⟨v1, vs1, d1, ds1, p1, q1, rfl, rfl, rfl, h1, r1⟩ := trodAll_cons r0
  obtain ⟨v2, vs2, d2, ds2, p2, q2, rfl, rfl, rfl, h2, r2⟩ := trodAll_cons r1
  obtain ⟨v3, vs3, d3, ds3, p3, q3, rfl, rfl, rfl, h3, r3⟩ := trodAll_cons r2
  obtain ⟨rfl, rfl, rfl⟩ := trodAll_nil r3
  obtain rfl : args = #[v0, v1, v2, v3] := by cases args; simp_all
  obtain ⟨rfl, rfl⟩ := trodVars_none hV
  obtain ⟨a0, len0, cap0, rfl⟩ := okWide_slice Try.underlying22 (hval 0 22 v0 rfl rfl)
  have k0 := h0
  have lt0 : ∀ x ∈ p0, x.block < W.heap.size := by obtain ⟨m, hm⟩ := k0; exact DataW.trod_lt m _ _ _ hm
  obtain ⟨N, P, w0⟩ : ∃ N P, IsRow W a0 len0 cap0 N P := by
    obtain ⟨fuel, hf⟩ := h0
    rcases Go.Deep.open_slice_pairs Try.underlying22 Try.underlying33 (by kernel_rfl) rfl rfl (by kernel_rfl) (by kernel_rfl) hf with ⟨hcs, _⟩ | ⟨x, l, c, m, n, V0, V1, D0, D1, P0, P1, hcs, _, hl, hm, hmm, _, hcell⟩
    · simp [Value.cells] at hcs
      obtain ⟨rfl, rfl, rfl⟩ := hcs
      exact ⟨fun _ => 0, fun _ => false, fun _ => ⟨rfl, rfl⟩, ⟨fun h => absurd h (Nat.lt_irrefl _)⟩, fun i hi => absurd hi (Nat.not_lt_zero _)⟩
    · simp [Value.cells] at hcs
      obtain ⟨rfl, rfl, rfl⟩ := hcs
      have hlm : len0 ≤ m := by rw [hmm]; split <;> omega
      obtain ⟨N, P, hR, hB⟩ := brow (w := W) (a := x) (len := len0) (V0 := V0) (V1 := V1) (fun i hi => by
        obtain ⟨c1, c2, t1, t2⟩ := hcell i (by omega)
        obtain ⟨z, hz, _, hw⟩ := DataW.trod_int Try.underlying3 t1
        obtain ⟨b, hb, _⟩ := DataW.trod_bool Try.underlying4 t2
        exact ⟨c1, c2, ⟨z, by simpa using hz, hw⟩, ⟨b, by simpa using hb⟩⟩)
      exact ⟨N, P, fun h => (Option.some_ne_none _ h).elim, hR, hB⟩
  obtain ⟨a1, rfl, rfl, rfl, w1⟩ := open_int Try.underlying3 (hval 1 3 v1 rfl rfl) h1
  obtain ⟨a2, rfl, rfl, rfl, w2⟩ := open_int Try.underlying3 (hval 2 3 v2 rfl rfl) h2
  obtain ⟨a3, rfl, rfl, rfl, w3⟩ := open_int Try.underlying3 (hval 3 3 v3 rfl rfl) h3
  clear hA0 hval0
  refine (walk a0 len0 cap0 N P a1 a2 a3 W w0 w1 w2 w3).mono fun e W' ⟨he, bel⟩ => ?_
  subst he
  exact ⟨_, rfl, _, _, _, [], _, [], hW', trodAll_mk1 (shut_bool Try.underlying4 _), (trodAll_cons_mk (Below.trod laidOut (by kernel_rfl) (of_decide_eq_true (by kernel_rfl)) k0 bel lt0) (trodAll_cons_mk (shut_int Try.underlying3 w1) (trodAll_cons_mk (shut_int Try.underlying3 w2) (trodAll_cons_mk (shut_int Try.underlying3 w3) trodAll_mk0)))), rfl, bel.frame _, fun h => by cases h⟩

theorem over : Rows.fnBatchSizesOfMoreSkipTruncatesRow.holds Try.pinned (OpenSpec.ofChange Rows.fnBatchSizesOfMoreSkipTruncatesSpec) :=
  OpenClaim.holds_of_wide 4 Try.f4 rfl rfl rfl rfl rfl rfl rfl ⟨rfl, rfl, rfl, rfl, rfl⟩ rfl rfl rfl rfl rfl (by kernel_rfl) Try.func4 (by kernel_rfl)
    (of_decide_eq_true (by kernel_rfl)) (by unfold Func.isWrapper; first | (rw [if_pos (by decide +kernel)]; kernel_rfl) | (rw [if_neg (by decide +kernel)]; exact ⟨rfl, rfl⟩))
    (fun os started H enc _ => lifted os started H enc)

/-- ████ THE STATEMENT ████ -/
theorem proved : Rows.FnBatchSizesOfMoreSkipTruncatesSaid := over
#print axioms proved
end Go.Proofs.Qxb6629303a.fnBatchSizesOfMoreSkipTruncates
