/-
  THE STATEMENT 'Rows.LawS7281AWholeSaid': the row out of the walk (YbulkettoAWalk).
-/
import Derived.Test.YbulkettoAWalk
import Derived.ProofKit
import Derived.OpenShut
import Derived.ChangeOld
import Derived.Laws.IdiomArrays
import Derived.Laws.Cover2
import Derived.Deep.SlicePairs
namespace Go.Proofs.Ybulketto.lawA
open Go.ChangeShapes Go.WideShapes Go.ChangeAt Go.RowKit Go.Deep

theorem own : ownKnob Yba.prog.godebug = none := by kernel_rfl
theorem laidOut : laidOutB Yba.prog = true := by kernel_rfl
theorem cells22 : Yba.prog.cellsOf 22 = 1 := by kernel_rfl
theorem cells23 : Yba.prog.cellsOf 23 = 4 := by kernel_rfl
theorem cells24 : Yba.prog.cellsOf 24 = 1 := by kernel_rfl
theorem cells25 : Yba.prog.cellsOf 25 = 4 := by kernel_rfl

theorem list4 {α : Type} (l : List α) (h : (⟨l⟩ : Array α).size = 4) : ∃ a b c d, l = [a, b, c, d] := by
  match l, h with
  | [a, b, c, d], _ => exact ⟨a, b, c, d, rfl⟩

theorem float_cell {H : Type} {enc : TypeId × Value → H} {W : World} {fuel : Nat} {c : Value} {x : DataW H × List MemPlace}
    (h : DataW.trod enc Yba.prog W 0 (fun _ => true) true fuel 22 [c] = some x) : ∃ b, c = .float .f64 b := by
  cases fuel with
  | zero => simp [DataW.trod] at h
  | succ n =>
    simp only [DataW.trod, Yba.underlying22] at h
    cases c <;> simp at h
    rename_i k b
    cases k <;> simp at h
    exact ⟨b, rfl⟩

set_option maxRecDepth 100000 in
theorem open_floats {H : Type} {enc : TypeId × Value → H} {W : World} {base : Nat} {v : Value} {d : DataW H} {ps : List MemPlace}
    (hval : Value.okWide Yba.prog W .any base 23 v) (h : DataW.Trod enc Yba.prog W 0 (fun _ => true) true 23 v d ps) :
    ∃ U : Nat → Nat, v = .agg #[.float .f64 (U 0), .float .f64 (U 1), .float .f64 (U 2), .float .f64 (U 3)] := by
  obtain ⟨cs, rfl, hsz, _⟩ : ∃ cs, v = .agg cs ∧ cs.size = Yba.prog.cellsOf 23 ∧ Row.okWide Yba.prog W .any base 23 cs := by
    simpa [Value.okWide, Yba.underlying23] using hval
  rw [cells23] at hsz
  obtain ⟨l⟩ := cs
  obtain ⟨c0, c1, c2, c3, rfl⟩ := list4 l hsz
  obtain ⟨fuel, hf⟩ := h
  obtain ⟨y0, y1, y2, y3, m, _, hy0, hy1, hy2, hy3⟩ := trod_array4 Yba.underlying23 cells22 hf
  obtain ⟨x0, rfl⟩ := float_cell hy0
  obtain ⟨x1, rfl⟩ := float_cell hy1
  obtain ⟨x2, rfl⟩ := float_cell hy2
  obtain ⟨x3, rfl⟩ := float_cell hy3
  exact ⟨fun j => [x0, x1, x2, x3].getD j 0, rfl⟩

set_option maxRecDepth 100000 in
theorem open_u16s {H : Type} {enc : TypeId × Value → H} {W : World} {base : Nat} {v : Value} {d : DataW H} {ps : List MemPlace}
    (hval : Value.okWide Yba.prog W .any base 25 v) (h : DataW.Trod enc Yba.prog W 0 (fun _ => true) true 25 v d ps) :
    ∃ N : Nat → Nat, (∀ j, j < 4 → N j ≤ 65535) ∧ v = .agg #[.int .u16 (N 0 : Int), .int .u16 (N 1 : Int), .int .u16 (N 2 : Int), .int .u16 (N 3 : Int)] := by
  obtain ⟨cs, rfl, hsz, _⟩ : ∃ cs, v = .agg cs ∧ cs.size = Yba.prog.cellsOf 25 ∧ Row.okWide Yba.prog W .any base 25 cs := by
    simpa [Value.okWide, Yba.underlying25] using hval
  rw [cells25] at hsz
  obtain ⟨l⟩ := cs
  obtain ⟨c0, c1, c2, c3, rfl⟩ := list4 l hsz
  obtain ⟨fuel, hf⟩ := h
  obtain ⟨y0, y1, y2, y3, m, _, hy0, hy1, hy2, hy3⟩ := trod_array4 Yba.underlying25 cells24 hf
  obtain ⟨x0, e0, _, w0⟩ := DataW.trod_int Yba.underlying24 hy0
  obtain ⟨x1, e1, _, w1⟩ := DataW.trod_int Yba.underlying24 hy1
  obtain ⟨x2, e2, _, w2⟩ := DataW.trod_int Yba.underlying24 hy2
  obtain ⟨x3, e3, _, w3⟩ := DataW.trod_int Yba.underlying24 hy3
  simp at e0 e1 e2 e3
  subst e0 e1 e2 e3
  simp [Lit.wf, IntKind.min, IntKind.max, IntKind.signed, IntKind.bits] at w0 w1 w2 w3
  refine ⟨fun j => [x0.toNat, x1.toNat, x2.toNat, x3.toNat].getD j 0, fun j hj => ?_, ?_⟩
  · match j, hj with
    | 0, _ => simp; omega
    | 1, _ => simp; omega
    | 2, _ => simp; omega
    | 3, _ => simp; omega
  · simp [List.getD, Int.max_eq_left w0.1, Int.max_eq_left w1.1, Int.max_eq_left w2.1, Int.max_eq_left w3.1]

set_option maxHeartbeats 400000 in
set_option maxRecDepth 100000 in
theorem lifted (os : Os) (started : os.Started) (H : Type) (enc : TypeId × Value → H) :
    ReturnsInHanded {} Yba.checked os 3 .any (Rows.lawS7281AWholeSpec.pre6 enc Yba.prog Yba.f3 Rows.lawS7281AWholeRow.domain false) (Rows.lawS7281AWholeSpec.post enc Yba.prog Yba.f3 false true false false) := by
  refine returnsInHanded_of_change (C := Yba.checked) own started (by kernel_rfl) Yba.func3
    (ChangeSpec.witness6 (enc := enc) (C := Yba.checked) false ⟨#[], #[.int .u8 0, .bool false, .float .f64 0, .agg #[.float .f64 0, .float .f64 0, .float .f64 0, .float .f64 0], .agg #[.int .u16 0, .int .u16 0, .int .u16 0, .int .u16 0], .float .f64 0, .agg #[.float .f64 0, .float .f64 0, .float .f64 0, .float .f64 0], .agg #[.int .u16 0, .int .u16 0, .int .u16 0, .int .u16 0]], []⟩ 8 (by kernel_rfl) (by kernel_rfl) (by kernel_rfl) (by kernel_rfl)) ?_
  intro W base args ds gs before hval0 hW _ _
  have hval : ∀ (j : Nat) t v, Yba.f3.params[j]? = some t → args[j]? = some v → Value.okWide Yba.prog W .any base t v := hval0
  have hW' := hW
  obtain ⟨p, q, hA0, hV, rfl, _, _⟩ := hW
  have hA : DataW.TrodAll enc Yba.prog W 0 (fun _ => true) true Yba.f3.params.toList args.toList ds p := hA0
  rw [Yba.params3] at hA hval
  obtain ⟨v0, vs0, d0, ds0, p0, q0, hargs, rfl, rfl, h0, r0⟩ := trodAll_cons hA
  obtain ⟨v1, vs1, d1, ds1, p1, q1, rfl, rfl, rfl, h1, r1⟩ := trodAll_cons r0
  obtain ⟨v2, vs2, d2, ds2, p2, q2, rfl, rfl, rfl, h2, r2⟩ := trodAll_cons r1
  obtain ⟨v3, vs3, d3, ds3, p3, q3, rfl, rfl, rfl, h3, r3⟩ := trodAll_cons r2
  obtain ⟨v4, vs4, d4, ds4, p4, q4, rfl, rfl, rfl, h4, r4⟩ := trodAll_cons r3
  obtain ⟨v5, vs5, d5, ds5, p5, q5, rfl, rfl, rfl, h5, r5⟩ := trodAll_cons r4
  obtain ⟨v6, vs6, d6, ds6, p6, q6, rfl, rfl, rfl, h6, r6⟩ := trodAll_cons r5
  obtain ⟨v7, vs7, d7, ds7, p7, q7, rfl, rfl, rfl, h7, r7⟩ := trodAll_cons r6
  obtain ⟨rfl, rfl, rfl⟩ := trodAll_nil r7
  obtain rfl : args = #[v0, v1, v2, v3, v4, v5, v6, v7] := by cases args; simp_all
  obtain ⟨rfl, rfl⟩ := trodVars_none hV
  have lt3 : ∀ x ∈ p3, x.block < W.heap.size := by obtain ⟨m, hm⟩ := h3; exact DataW.trod_lt m _ _ _ hm
  have lt4 : ∀ x ∈ p4, x.block < W.heap.size := by obtain ⟨m, hm⟩ := h4; exact DataW.trod_lt m _ _ _ hm
  have lt6 : ∀ x ∈ p6, x.block < W.heap.size := by obtain ⟨m, hm⟩ := h6; exact DataW.trod_lt m _ _ _ hm
  have lt7 : ∀ x ∈ p7, x.block < W.heap.size := by obtain ⟨m, hm⟩ := h7; exact DataW.trod_lt m _ _ _ hm
  obtain ⟨cls, rfl, rfl, rfl, w0⟩ := open_int Yba.underlying5 (hval 0 5 v0 rfl rfl) h0
  obtain ⟨same, rfl, rfl, rfl⟩ := open_bool Yba.underlying4 (hval 1 4 v1 rfl rfl) h1
  obtain ⟨cap1, rfl, rfl, rfl, w2⟩ := open_float Yba.underlying22 (hval 2 22 v2 rfl rfl) h2
  obtain ⟨cap2, rfl, rfl, rfl, w5⟩ := open_float Yba.underlying22 (hval 5 22 v5 rfl rfl) h5
  obtain ⟨U1, rfl⟩ := open_floats (hval 3 23 v3 rfl rfl) h3
  obtain ⟨U2, rfl⟩ := open_floats (hval 6 23 v6 rfl rfl) h6
  obtain ⟨N1, n1, rfl⟩ := open_u16s (hval 4 25 v4 rfl rfl) h4
  obtain ⟨N2, n2, rfl⟩ := open_u16s (hval 7 25 v7 rfl rfl) h7
  clear hA0 hval0 hval hA r0 r1 r2 r3 r4 r5 r6 r7
  have b0 := w0
  simp [Lit.wf, IntKind.min, IntKind.max, IntKind.signed, IntKind.bits] at b0
  refine (lawA_walk cls same cap1 cap2 U1 N1 U2 N2 W b0.1 (by omega) n1 n2).mono fun e W' ⟨he, bel⟩ => ?_
  subst he
  exact ⟨_, rfl, _, _, _, [], _, [], hW', trodAll_mk1 (shut_bool Yba.underlying4 _),
    (trodAll_cons_mk (shut_int Yba.underlying5 w0) (trodAll_cons_mk (shut_bool Yba.underlying4 _) (trodAll_cons_mk (shut_float Yba.underlying22 w2)
      (trodAll_cons_mk (Below.trod laidOut (by kernel_rfl) (of_decide_eq_true (by kernel_rfl)) h3 bel lt3)
      (trodAll_cons_mk (Below.trod laidOut (by kernel_rfl) (of_decide_eq_true (by kernel_rfl)) h4 bel lt4)
      (trodAll_cons_mk (shut_float Yba.underlying22 w5)
      (trodAll_cons_mk (Below.trod laidOut (by kernel_rfl) (of_decide_eq_true (by kernel_rfl)) h6 bel lt6)
      (trodAll_cons_mk (Below.trod laidOut (by kernel_rfl) (of_decide_eq_true (by kernel_rfl)) h7 bel lt7) trodAll_mk0)))))))), rfl, bel.frame _, fun h => by cases h⟩

theorem over : Rows.lawS7281AWholeRow.holds Yba.pinned (OpenSpec.ofChange Rows.lawS7281AWholeSpec) :=
  OpenClaim.holds_of_wide 3 Yba.f3 rfl rfl rfl rfl rfl rfl rfl ⟨rfl, rfl, rfl, rfl, rfl⟩ rfl rfl rfl rfl rfl (by kernel_rfl) Yba.func3 (by kernel_rfl)
    (of_decide_eq_true (by kernel_rfl)) (by unfold Func.isWrapper; first | (rw [if_pos (by decide +kernel)]; kernel_rfl) | (rw [if_neg (by decide +kernel)]; exact ⟨rfl, rfl⟩))
    (fun os started H enc _ => lifted os started H enc)

end Go.Proofs.Ybulketto.lawA

namespace Go.Proofs.Ybulketto
theorem lawA_proved : Rows.LawS7281AWholeSaid := lawA.over

end Go.Proofs.Ybulketto
