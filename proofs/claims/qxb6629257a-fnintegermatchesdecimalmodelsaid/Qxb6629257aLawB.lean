import Derived.Test.Qxb6629257aWalksK
import Derived.Laws.CopyOwn
namespace Go.Proofs.Qxb6629257a.W
open Go.RowKit
set_option linter.unusedVariables false
set_option maxRecDepth 100000

theorem below_trans {w a b : World} (h : Below w.heap.size w a) (k : Below a.heap.size a b) : Below w.heap.size w b := h.trans (k.mono h.size)

theorem infoB : (Try.prog.info? 5).map (fun i => (i.zero, i.size, i.bytes)) = some (some (.int .u8 0), 1, 1) := by kernel_rfl
theorem sizeB : (Try.prog.info? 5).map (·.size) = some 1 := by kernel_rfl

theorem bytes_le (a : Option Addr) (len cap : Nat) (w : World) (h : len ≤ 1048576) :
    Calls Try.prog 5 #[.slice a len cap] w fun e w' => e = .returned (.bool true) ∧ w = w' := by
  go_enter Try.func5, Try.ntmps5
  go_wp2
  go_ret
  exact ⟨rfl, rfl⟩

theorem bytes_gt (a : Option Addr) (len cap : Nat) (w : World) (h : 1048576 < len) :
    Calls Try.prog 5 #[.slice a len cap] w fun e w' => e = .returned (.bool false) ∧ w = w' := by
  go_enter Try.func5, Try.ntmps5
  go_wp2
  go_ret
  exact ⟨rfl, rfl⟩

set_option maxHeartbeats 400000 in
theorem model_empty (a : Option Addr) (c : Nat) (w : World) :
    Calls Try.prog 7 #[.slice a 0 c] w fun e w' => e = .returned (.tuple #[.int .i64 0, .bool false]) ∧ w = w' := by
  go_enter Try.func7, Try.ntmps7
  go_wp2
  go_ret2
  exact ⟨rfl, rfl⟩

/-- 'copy(zzc, text)': the whole of it, into a row of the call's own. -/
theorem wpList_cp {W : World} {ops : Array Oper} {rest : List Oper} {o : Oper} {a : Act} {Q : Exit → Act → World → Prop} (hgd : o.guard = none) (d s : Operand)
    (ho : o.op = .call { callee := .builtin .copy, args := #[d, s], argTypes := #[22, 22] }) (n sCap : Nat) (sp : Option Addr) (g : Nat) (hd : a.eval d = .slice (some ⟨g, 0, none⟩) n n) (hs : a.eval s = .slice sp n sCap)
    (t : Nat → Int) (f : Nat → Value) (hrow : W.rowIs g 5 n f) (hsrc : 0 < n → ∃ b off, sp = some ⟨b, off, none⟩ ∧ ∀ j, j < n → W.cell? ⟨b, off + j, none⟩ = some (.int .u8 (t j)))
    (B : Nat) (w0 : World) (hb : Below B w0 W) (hBg : B ≤ g)
    (h : ∀ w', Text w' g 0 n t → Below B w0 w' → g < w'.heap.size → wpList Try.prog ops Q rest (a.put o.dst (goInt n)) w') : wpList Try.prog ops Q (o :: rest) a W := by
  obtain ⟨c, hc, hcn, hcf⟩ := hrow
  have hlen : ((List.range n).map (fun j => Value.int .u8 (t j))).length = n := by simp
  refine wpList_copy_splice hgd d s 22 22 ho 5 Try.underlying22 sizeB (some ⟨g, 0, none⟩) sp n n n sCap hd hs g 0 c.toList 5 (by simpa using hc) ((List.range n).map (fun j => Value.int .u8 (t j))) (by rw [hlen]; exact (Nat.min_self n).symm) ?_ (by rw [hlen]; simp [hcn]) ?_ B w0 hb hBg ?_
  · intro hp
    rw [hlen] at hp
    obtain ⟨b, off, rfl, hcell⟩ := hsrc hp
    refine ⟨rfl, _, rfl, fun j v hv => ?_⟩
    have hj : j < n := by
      have := (List.getElem?_eq_some_iff.1 hv).1
      simpa using this
    rw [Go.WideShapes.add_plain, hcell j hj]
    simp [hj] at hv
    rw [hv]
  · intro v hv
    simp at hv
    obtain ⟨j, _, rfl⟩ := hv
    rfl
  · intro w' hg hb'
    have hg2 := hg.out
    rw [hlen]
    refine h w' ⟨fun j hj => ?_⟩ hb' ?_
    · have e : splice c.toList 0 ((List.range n).map (fun j => Value.int .u8 (t j))) = (List.range n).map (fun j => Value.int .u8 (t j)) := by
        unfold splice
        rw [hlen, Nat.zero_add, List.take_zero, List.nil_append, List.drop_eq_nil_of_le (by simp [hcn]), List.append_nil]
      rw [e] at hg2
      rw [Nat.zero_add]
      refine cell_of_cells hg2 ?_
      simp [hj]
    · obtain ⟨hlt, _⟩ := Array.getElem?_eq_some_iff.1 hg2
      exact hlt

theorem neqnil (w : World) (a : Option Addr) (n c : Nat) : (binOp .neq 22 (.slice a n c) (.slice none 0 0)).run Try.prog w = .ok (.bool a.isSome) w := by
  have h := run_neq_slice_nil_any w 22 5 a n c 0 0 Try.underlying22
  rw [h]
  cases a <;> rfl

set_option maxHeartbeats 400000 in
theorem lawB_big (a : Option Addr) (len cap : Nat) (w : World) (h : 1048576 < len) :
    Calls Try.prog 3 #[.slice a len cap] w fun e w' => e = .returned (.bool true) ∧ Below w.heap.size w w' := by
  go_enter Try.func3, Try.ntmps3
  go_wp2_with (go_at_call 5; refine (bytes_gt _ _ _ _ h).mono ?_; rintro e w' ⟨rfl, rfl⟩)
  go_ret
  exact ⟨rfl, Below.refl _ _⟩

set_option maxHeartbeats 1000000 in
theorem lawB_nil (w : World) :
    Calls Try.prog 3 #[.slice none 0 0] w fun e w' => e = .returned (.bool true) ∧ Below w.heap.size w w' := by
  have hq := neqnil
  go_enter Try.func3, Try.ntmps3
  go_wp2_with (go_at_call 5; refine (bytes_le _ _ _ _ (by omega)).mono ?_; rintro e w' ⟨rfl, rfl⟩)
  refine (Integer_empty none 0 w).mono ?_
  rintro _ w1 ⟨rfl, hb1⟩
  have Z1 : Aside (Below w.heap.size w w1) := hb1
  clear hb1
  go_wp2_with fail
  refine (model_empty none 0 w1).mono ?_
  rintro _ w2 ⟨rfl, rfl⟩
  go_wp2_with fail
  go_ret
  exact ⟨rfl, Z1.out⟩

set_option maxHeartbeats 1000000 in
theorem lawB_any (x : Addr) (n cap : Nat) (t : Nat → Int) (w : World) (hn : n ≤ 1048576) (hsrc : 0 < n → ∃ b off, x = ⟨b, off, none⟩ ∧ ∀ j, j < n → w.cell? ⟨b, off + j, none⟩ = some (.int .u8 (t j))) :
    Calls Try.prog 3 #[.slice (some x) n cap] w fun e w' => e = .returned (.bool true) ∧ Below w.heap.size w w' := by
  have hq := neqnil
  have hmk := run_make_row' (P := Try.prog) 22 5 (.int .u8 0) 1 Try.underlying22 infoB rfl .i64 .i64 n (by omega) (by omega)
  have SRC : Aside (0 < n → ∃ b off, some x = some ⟨b, off, none⟩ ∧ ∀ j, j < n → (w.alloc (.cells (madeCells #[.int .u8 0] n) 5)).cell? ⟨b, off + j, none⟩ = some (.int .u8 (t j))) := by
    intro h
    obtain ⟨b, off, rfl, hc⟩ := hsrc h
    exact ⟨b, off, rfl, fun j hj => cell_later ((Below.refl _ _).alloc (Nat.le_refl _) _) (hc j hj)⟩
  clear hsrc
  go_enter Try.func3, Try.ntmps3
  go_upto_region 7 with (go_at_call 5; refine (bytes_le _ _ _ _ hn).mono ?_; rintro e w' ⟨rfl, rfl⟩)
  go_wp2_with (refine wpList_cp rfl (.tmp 19) (.tmp 20) rfl n cap (some x) w.heap.size rfl rfl t _ (World.rowIs_made w (.int .u8 0) n 5) SRC.out w.heap.size w ((Below.refl _ _).alloc (Nat.le_refl _) _) (Nat.le_refl _) ?_; intro w1 hT hB hlt; have Z1 : Aside (Text w1 w.heap.size 0 n t ∧ Below w.heap.size w w1 ∧ w.heap.size < w1.heap.size) := ⟨hT, hB, hlt⟩; clear hT hB hlt)
  clear hmk hq SRC
  rcases Nat.eq_zero_or_pos n with h0 | hpos
  · subst h0
    refine (Integer_empty _ 0 w1).mono ?_
    rintro _ w2 ⟨rfl, hb1⟩
    have Z2 : Aside (Below w.heap.size w w2) := below_trans Z1.out.2.1 hb1
    clear hb1
    go_wp2_with fail
    refine (model_empty _ 0 w2).mono ?_
    rintro _ w3 ⟨rfl, rfl⟩
    go_wp2_with fail
    go_ret
    exact ⟨rfl, Z2.out⟩
  · refine (Integer_at w.heap.size 0 n n t w1 Z1.out.1 hpos (by omega) (Nat.le_refl _) (by omega) Z1.out.2.2).mono ?_
    rintro _ w2 ⟨v, ok, rfl, ho, hb1⟩
    have Z2 : Aside (Below w.heap.size w w2 ∧ IntOut t n v ok ∧ Text w2 w.heap.size 0 n t) := ⟨below_trans Z1.out.2.1 hb1, ho, ⟨fun j hj => cell_later hb1 (Z1.out.1.cells j hj)⟩⟩
    clear hb1 ho
    go_wp2_with fail
    refine (model_at w.heap.size 0 n n t w2 Z2.out.2.2 hpos (by omega)).mono ?_
    rintro _ w3 ⟨v2, ok2, rfl, ho2, rfl⟩
    obtain ⟨hv, hok⟩ := Z2.out.2.1.uniq ho2
    subst hv hok
    clear ho2
    go_wp2_with fail
    go_ret
    exact ⟨by simp, Z2.out.1⟩

end Go.Proofs.Qxb6629257a.W
