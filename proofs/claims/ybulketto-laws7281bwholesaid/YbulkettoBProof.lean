/-
  THE STATEMENT 'Rows.LawS7281BWholeSaid': the row out of the walk (YbulkettoBWalk).
-/
import Derived.Test.YbulkettoBWalk
import Derived.ProofKit
import Derived.OpenShut
import Derived.ShutString
import Derived.ChangeOld
import Derived.Deep.SlicePairs
namespace Go.Proofs.Ybulketto.lawB
open Go.ChangeShapes Go.WideShapes Go.ChangeAt Go.RowKit Go.Deep
open Go.ChangeMaps (open_string shut_string)
open Go.Proofs.Ybulketto.B

theorem own : ownKnob Yba.prog.godebug = none := by kernel_rfl
theorem laidOut : laidOutB Yba.prog = true := by kernel_rfl
theorem cells57 : Yba.prog.cellsOf 57 = 2 := by kernel_rfl
theorem cells9 : Yba.prog.cellsOf 9 = 1 := by kernel_rfl
theorem cells2 : Yba.prog.cellsOf 2 = 1 := by kernel_rfl

theorem i64_range {z : Int} (h : (Lit.int .i64 z).wf = true) : -9223372036854775808 ≤ z ∧ z ≤ 9223372036854775807 := by
  simpa [Lit.wf, IntKind.min, IntKind.max, IntKind.signed, IntKind.bits] using h

/-- The leases that came in, opened. -/
theorem open_leases {H : Type} {enc : TypeId × Value → H} {W : World} {fuel : Nat} {a0 : Option Addr} {len cap : Nat} {x : DataW H × List MemPlace}
    (h : DataW.trod enc Yba.prog W 0 (fun _ => true) true fuel 55 [.slice a0 len cap] = some x) :
    ∃ (b off : Nat) (K : Nat → ByteArray) (U : Nat → Int), (0 < len → a0 = some ⟨b, off, none⟩) ∧ (∀ j, j < len → W.cell? ⟨b, off + j * 2, none⟩ = some (.string (K j))) ∧ (∀ j, j < len → W.cell? ⟨b, off + j * 2 + 1, none⟩ = some (.int .i64 (U j))) ∧
      (∀ j, j < len → (K j).size ≤ maxLen) ∧ (∀ j, j < len → -9223372036854775808 ≤ U j ∧ U j ≤ 9223372036854775807) := by
  rcases open_slice_pairs Yba.underlying55 Yba.underlying57 cells57 rfl rfl cells9 cells2 h with ⟨hcs, _⟩ | ⟨a, len', cap', mm, n, V0, V1, D0, D1, P0, P1, hcs, _, hl, hm, hmm, hx, hcell⟩
  · simp at hcs
    obtain ⟨rfl, rfl, rfl⟩ := hcs
    exact ⟨0, 0, fun _ => default, fun _ => 0, fun h => absurd h (by omega), fun j hj => absurd hj (by omega), fun j hj => absurd hj (by omega), fun j hj => absurd hj (by omega), fun j hj => absurd hj (by omega)⟩
  · simp at hcs
    obtain ⟨rfl, rfl, rfl⟩ := hcs
    have hlm : len ≤ mm := by rw [hmm]; split <;> omega
    have each : ∀ j, j < len → ∃ r : ByteArray × Int, W.cell? (a.add (j * 2)) = some (.string r.1) ∧ W.cell? (a.add (j * 2 + 1)) = some (.int .i64 r.2) ∧ r.1.size ≤ maxLen ∧ -9223372036854775808 ≤ r.2 ∧ r.2 ≤ 9223372036854775807 := by
      intro j hj
      obtain ⟨c0, c1, t0, t1⟩ := hcell j (by omega)
      obtain ⟨s, e0, _, hs⟩ := DataW.trod_string Yba.underlying9 t0
      obtain ⟨z, e1, _, hz⟩ := DataW.trod_int Yba.underlying2 t1
      simp at e0 e1
      exact ⟨(s, z), by rw [c0, e0], by rw [c1, e1], by simpa [Lit.wf] using hs, i64_range hz⟩
    obtain ⟨r, hr⟩ := choose_lt each
    obtain ⟨b, off, spot⟩ := a
    by_cases h0 : 0 < len
    · have hspot : spot = none := by have := hr 0 h0; simpa [Addr.add] using World.cell?_spot this.1
      subst hspot
      refine ⟨b, off, fun j => (r j).1, fun j => (r j).2, fun _ => rfl, fun j hj => ?_, fun j hj => ?_, fun j hj => (hr j hj).2.2.1, fun j hj => (hr j hj).2.2.2⟩
      · rw [← add_plain]; exact (hr j hj).1
      · rw [Nat.add_assoc, ← add_plain]; exact (hr j hj).2.1
    · exact ⟨b, off, fun j => (r j).1, fun j => (r j).2, fun h => absurd h h0, fun j hj => absurd hj (by omega), fun j hj => absurd hj (by omega), fun j hj => absurd hj (by omega), fun j hj => absurd hj (by omega)⟩

set_option maxHeartbeats 400000 in
set_option maxRecDepth 100000 in
theorem walk_long (ea : Option Addr) (n ec : Nat) (sw now pick : Int) (stranger : Bool) (other : ByteArray) (w : World) (h : 4096 < n) :
    Calls Yba.prog 4 #[.slice ea n ec, .int .i64 sw, .int .i64 now, .int .u8 pick, .bool stranger, .string other] w fun e w' => e = .returned (.bool true) ∧ Below w.heap.size w w' := by
  have hl : ((4096 : Int) < (n : Int)) := by omega
  go_enter Yba.func4, Yba.ntmps4
  go_wp2
  go_ret
  exact ⟨rfl, Below.refl _ _⟩

set_option maxHeartbeats 400000 in
set_option maxRecDepth 100000 in
theorem lifted (os : Os) (started : os.Started) (H : Type) (enc : TypeId × Value → H) :
    ReturnsInHanded {} Yba.checked os 4 .any (Rows.lawS7281BWholeSpec.pre6 enc Yba.prog Yba.f4 Rows.lawS7281BWholeRow.domain false) (Rows.lawS7281BWholeSpec.post enc Yba.prog Yba.f4 false true false false) := by
  refine returnsInHanded_of_change (C := Yba.checked) own started (by kernel_rfl) Yba.func4
    (ChangeSpec.witness6 (enc := enc) (C := Yba.checked) false ⟨#[], #[.slice none 0 0, .int .i64 0, .int .i64 0, .int .u8 0, .bool false, .string ByteArray.empty], []⟩ 8 (by kernel_rfl) (by kernel_rfl) (by kernel_rfl) (by kernel_rfl)) ?_
  intro W base args ds gs before hval0 hW _ _
  have hval : ∀ (j : Nat) t v, Yba.f4.params[j]? = some t → args[j]? = some v → Value.okWide Yba.prog W .any base t v := hval0
  have hW' := hW
  obtain ⟨p, q, hA0, hV, rfl, _, _⟩ := hW
  have hA : DataW.TrodAll enc Yba.prog W 0 (fun _ => true) true Yba.f4.params.toList args.toList ds p := hA0
  rw [Yba.params4] at hA hval
  obtain ⟨v0, vs0, d0, ds0, p0, q0, hargs, rfl, rfl, h0, r0⟩ := trodAll_cons hA
  obtain ⟨v1, vs1, d1, ds1, p1, q1, rfl, rfl, rfl, h1, r1⟩ := trodAll_cons r0
  obtain ⟨v2, vs2, d2, ds2, p2, q2, rfl, rfl, rfl, h2, r2⟩ := trodAll_cons r1
  obtain ⟨v3, vs3, d3, ds3, p3, q3, rfl, rfl, rfl, h3, r3⟩ := trodAll_cons r2
  obtain ⟨v4, vs4, d4, ds4, p4, q4, rfl, rfl, rfl, h4, r4⟩ := trodAll_cons r3
  obtain ⟨v5, vs5, d5, ds5, p5, q5, rfl, rfl, rfl, h5, r5⟩ := trodAll_cons r4
  obtain ⟨rfl, rfl, rfl⟩ := trodAll_nil r5
  obtain rfl : args = #[v0, v1, v2, v3, v4, v5] := by cases args; simp_all
  obtain ⟨rfl, rfl⟩ := trodVars_none hV
  have lt0 : ∀ x ∈ p0, x.block < W.heap.size := by obtain ⟨m, hm⟩ := h0; exact DataW.trod_lt m _ _ _ hm
  obtain ⟨ea, n, ec, rfl⟩ := okWide_slice Yba.underlying55 (hval 0 55 v0 rfl rfl)
  obtain ⟨sw, rfl, rfl, rfl, w1⟩ := open_int Yba.underlying2 (hval 1 2 v1 rfl rfl) h1
  obtain ⟨now, rfl, rfl, rfl, w2⟩ := open_int Yba.underlying2 (hval 2 2 v2 rfl rfl) h2
  obtain ⟨pick, rfl, rfl, rfl, w3⟩ := open_int Yba.underlying5 (hval 3 5 v3 rfl rfl) h3
  obtain ⟨stranger, rfl, rfl, rfl⟩ := open_bool Yba.underlying4 (hval 4 4 v4 rfl rfl) h4
  obtain ⟨other, rfl, rfl, rfl, w5⟩ := open_string Yba.underlying9 (hval 5 9 v5 rfl rfl) h5
  have k0 := h0
  obtain ⟨f0, hf0⟩ := h0
  obtain ⟨eb, eo, PK, U, hea, hE, hU, hz, hUb⟩ := open_leases (by simpa [Value.cells] using hf0)
  clear hA0 hval0 hval hA r0 r1 r2 r3 r4 r5
  have hp := bounds_u8 w3
  have b1 := i64_range w1
  have b2 := i64_range w2
  have hoz : other.size ≤ maxLen := by simpa [Lit.wf] using w5
  have walk : Calls Yba.prog 4 #[.slice ea n ec, .int .i64 sw, .int .i64 now, .int .u8 pick, .bool stranger, .string other] W fun e w' => e = .returned (.bool true) ∧ Below W.heap.size W w' := by
    by_cases hlong : n ≤ 4096
    · exact lawB_walk ea eb eo n ec PK U sw now pick stranger other W hlong hea hp.1 hp.2 b1.1 b1.2 b2.1 b2.2 hoz hE hU hz hUb
    · exact walk_long ea n ec sw now pick stranger other W (by omega)
  refine walk.mono fun e W' ⟨he, bel⟩ => ?_
  subst he
  exact ⟨_, rfl, _, _, _, [], _, [], hW', trodAll_mk1 (shut_bool Yba.underlying4 _),
    (trodAll_cons_mk (Below.trod laidOut (by kernel_rfl) (of_decide_eq_true (by kernel_rfl)) k0 bel lt0) (trodAll_cons_mk (shut_int Yba.underlying2 w1) (trodAll_cons_mk (shut_int Yba.underlying2 w2) (trodAll_cons_mk (shut_int Yba.underlying5 w3)
      (trodAll_cons_mk (shut_bool Yba.underlying4 _) (trodAll_cons_mk (shut_string Yba.underlying9 w5) trodAll_mk0)))))), rfl, bel.frame _, fun h => by cases h⟩

theorem over : Rows.lawS7281BWholeRow.holds Yba.pinned (OpenSpec.ofChange Rows.lawS7281BWholeSpec) :=
  OpenClaim.holds_of_wide 4 Yba.f4 rfl rfl rfl rfl rfl rfl rfl ⟨rfl, rfl, rfl, rfl, rfl⟩ rfl rfl rfl rfl rfl (by kernel_rfl) Yba.func4 (by kernel_rfl)
    (of_decide_eq_true (by kernel_rfl)) (by unfold Func.isWrapper; first | (rw [if_pos (by decide +kernel)]; kernel_rfl) | (rw [if_neg (by decide +kernel)]; exact ⟨rfl, rfl⟩))
    (fun os started H enc _ => lifted os started H enc)

end Go.Proofs.Ybulketto.lawB

namespace Go.Proofs.Ybulketto
theorem lawB_proved : Rows.LawS7281BWholeSaid := lawB.over

end Go.Proofs.Ybulketto
