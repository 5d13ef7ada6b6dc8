/-
  THE STATEMENT 'Rows.LawS7203CWholeSaid': the row out of the walk (YbulkesdoCWalk).
-/
import Derived.Test.YbulkesdoCWalk
import Derived.ProofKit
import Derived.OpenShut
import Derived.ShutString
import Derived.ChangeOld
import Derived.SizedLaws
import Derived.Deep.SlicePairs
import Derived.Deep.Strs
namespace Go.Proofs.Ybulkesdo.lawC
open Go.ChangeShapes Go.WideShapes Go.ChangeAt Go.RowKit Go.Deep

theorem own : ownKnob Yba.prog.godebug = none := by kernel_rfl
theorem laidOut : laidOutB Yba.prog = true := by kernel_rfl
theorem cells57 : Yba.prog.cellsOf 57 = 3 := by kernel_rfl
theorem cells74 : Yba.prog.cellsOf 74 = 2 := by kernel_rfl
theorem cells37 : Yba.prog.cellsOf 37 = 1 := by kernel_rfl
theorem cells5 : Yba.prog.cellsOf 5 = 1 := by kernel_rfl
theorem bytes57 : Yba.prog.bytesOf 57 = 3 := by kernel_rfl
theorem bytes74 : Yba.prog.bytesOf 74 = 16 := by kernel_rfl

set_option maxHeartbeats 400000 in
set_option maxRecDepth 100000 in
theorem walk_long (all : Bool) (start : Int) (ia : Option Addr) (N ic : Nat) (qa : Option Addr) (Q qc : Nat) (w : World) (h : 65536 < N + Q) (hm : N + Q ≤ 9223372036854775807) :
    Calls Yba.prog 4 #[.bool all, .int .u64 start, .slice ia N ic, .slice qa Q qc] w fun e w' => e = .returned (.bool true) ∧ Below w.heap.size w w' := by
  have hl : ((65536 : Int) < (N : Int) + (Q : Int)) := by omega
  have hw : IntKind.i64.wrap ((N : Int) + (Q : Int)) = (N : Int) + (Q : Int) := by rw [IntKind.wrap_i64]; omega
  have hw' : wrap64 ((N : Int) + (Q : Int)) = (N : Int) + (Q : Int) := by unfold wrap64; omega
  go_enter Yba.func4, Yba.ntmps4
  go_wp2
  go_ret
  exact ⟨rfl, Below.refl _ _⟩

theorem len3 {α : Type} {l : List α} (h : l.length = 3) : ∃ a b c, l = [a, b, c] := by
  match l, h with
  | [a, b, c], _ => exact ⟨a, b, c, rfl⟩

/-- The items that came in, opened. -/
theorem open_items {H : Type} {enc : TypeId × Value → H} {W : World} {fuel : Nat} {a0 : Option Addr} {len cap : Nat} {x : DataW H × List MemPlace}
    (h : DataW.trod enc Yba.prog W 0 (fun _ => true) true fuel 38 [.slice a0 len cap] = some x) (hsz : ∀ n ∈ x.1.weights Yba.prog 38, n ≤ reachBytes) :
    len ≤ reachBytes ∧ ∃ (b off : Nat) (G A K : Nat → Int), (0 < len → a0 = some ⟨b, off, none⟩) ∧
      (∀ j, j < len → W.cell? ⟨b, off + j * 3, none⟩ = some (.int .u8 (G j))) ∧ (∀ j, j < len → W.cell? ⟨b, off + j * 3 + 1, none⟩ = some (.int .u8 (A j))) ∧ (∀ j, j < len → W.cell? ⟨b, off + j * 3 + 2, none⟩ = some (.int .u8 (K j))) ∧
      (∀ j, j < len → 0 ≤ G j ∧ G j ≤ 255) ∧ (∀ j, j < len → 0 ≤ A j ∧ A j ≤ 255) ∧ (∀ j, j < len → 0 ≤ K j ∧ K j ≤ 255) := by
  rcases open_slice Yba.underlying38 h with ⟨hcs, _⟩ | ⟨a, len', cap', mm, n, D, Pl, hcs, _, hl, hm, hmm, hx, hcell⟩
  · simp at hcs
    obtain ⟨rfl, rfl, rfl⟩ := hcs
    exact ⟨by decide, 0, 0, fun _ => 0, fun _ => 0, fun _ => 0, fun h => absurd h (by omega), fun j hj => absurd hj (by omega), fun j hj => absurd hj (by omega), fun j hj => absurd hj (by omega), fun j hj => absurd hj (by omega), fun j hj => absurd hj (by omega), fun j hj => absurd hj (by omega)⟩
  · simp at hcs
    obtain ⟨rfl, rfl, rfl⟩ := hcs
    have hlm : len ≤ mm := by rw [hmm]; split <;> omega
    have hb := hsz ((len + (mm - len)) * 3) (by rw [hx]; simp [DataW.weights, Yba.underlying38, bytes57])
    refine ⟨by omega, ?_⟩
    have each : ∀ j, j < len → ∃ r : Int × Int × Int, W.cell? (a.add (j * 3)) = some (.int .u8 r.1) ∧ W.cell? (a.add (j * 3 + 1)) = some (.int .u8 r.2.1) ∧ W.cell? (a.add (j * 3 + 2)) = some (.int .u8 r.2.2) ∧
        (0 ≤ r.1 ∧ r.1 ≤ 255) ∧ (0 ≤ r.2.1 ∧ r.2.1 ≤ 255) ∧ (0 ≤ r.2.2 ∧ r.2.2 ≤ 255) := by
      intro j hj
      obtain ⟨cs', h1, h2⟩ := hcell j (by omega)
      rw [cells57] at h1
      obtain ⟨_, hlen, hc⟩ := World.cells?_some h1
      obtain ⟨xs, k, hk, hxy, _, hxl, hf⟩ := DataW.trod_struct Yba.underlying57 h2
      obtain ⟨v0, v1, v2, rfl⟩ := len3 hlen
      have g0 := hf 0 _ rfl
      have g1 := hf 1 _ rfl
      have g2 := hf 2 _ rfl
      obtain ⟨y0, y1, y2, rfl⟩ := len3 (show xs.length = 3 from hxl)
      simp [cells5] at g0 g1 g2
      obtain ⟨s0, e0, _, z0⟩ := DataW.trod_int Yba.underlying5 g0
      obtain ⟨s1, e1, _, z1⟩ := DataW.trod_int Yba.underlying5 g1
      obtain ⟨s2, e2, _, z2⟩ := DataW.trod_int Yba.underlying5 g2
      simp at e0 e1 e2
      have c0 := hc 0 (by omega)
      have c1 := hc 1 (by omega)
      have c2 := hc 2 (by omega)
      rw [add_add] at c0 c1 c2
      exact ⟨(s0, s1, s2), by simpa [e0] using c0, by simpa [e1] using c1, by simpa [e2] using c2, bounds_u8 z0, bounds_u8 z1, bounds_u8 z2⟩
    obtain ⟨r, hr⟩ := choose_lt each
    obtain ⟨b, off, spot⟩ := a
    by_cases h0 : 0 < len
    · have hspot : spot = none := by have := hr 0 h0; simpa [Addr.add] using World.cell?_spot this.1
      subst hspot
      refine ⟨b, off, fun j => (r j).1, fun j => (r j).2.1, fun j => (r j).2.2, fun _ => rfl, fun j hj => ?_, fun j hj => ?_, fun j hj => ?_, fun j hj => (hr j hj).2.2.2.1, fun j hj => (hr j hj).2.2.2.2.1, fun j hj => (hr j hj).2.2.2.2.2⟩
      · rw [← add_plain]; exact (hr j hj).1
      · rw [Nat.add_assoc, ← add_plain]; exact (hr j hj).2.1
      · rw [Nat.add_assoc, ← add_plain]; exact (hr j hj).2.2.1
    · exact ⟨b, off, fun j => (r j).1, fun j => (r j).2.1, fun j => (r j).2.2, fun h => absurd h h0, fun j hj => absurd hj (by omega), fun j hj => absurd hj (by omega), fun j hj => absurd hj (by omega), fun j hj => absurd hj (by omega), fun j hj => absurd hj (by omega), fun j hj => absurd hj (by omega)⟩

/-- The queries that came in, opened. -/
theorem open_queries {H : Type} {enc : TypeId × Value → H} {W : World} {fuel : Nat} {a0 : Option Addr} {len cap : Nat} {x : DataW H × List MemPlace}
    (h : DataW.trod enc Yba.prog W 0 (fun _ => true) true fuel 39 [.slice a0 len cap] = some x) (hsz : ∀ n ∈ x.1.weights Yba.prog 39, n ≤ reachBytes) :
    len ≤ reachBytes ∧ ∃ (b off : Nat) (C A : Nat → Int), (0 < len → a0 = some ⟨b, off, none⟩) ∧
      (∀ j, j < len → W.cell? ⟨b, off + j * 2, none⟩ = some (.int .u64 (C j))) ∧ (∀ j, j < len → W.cell? ⟨b, off + j * 2 + 1, none⟩ = some (.int .u8 (A j))) ∧
      (∀ j, j < len → 0 ≤ C j ∧ C j < 18446744073709551616) ∧ (∀ j, j < len → 0 ≤ A j ∧ A j ≤ 255) := by
  rcases open_slice_pairs Yba.underlying39 Yba.underlying74 cells74 rfl rfl cells37 cells5 h with ⟨hcs, _⟩ | ⟨a, len', cap', mm, n, V0, V1, D0, D1, P0, P1, hcs, _, hl, hm, hmm, hx, hcell⟩
  · simp at hcs
    obtain ⟨rfl, rfl, rfl⟩ := hcs
    exact ⟨by decide, 0, 0, fun _ => 0, fun _ => 0, fun h => absurd h (by omega), fun j hj => absurd hj (by omega), fun j hj => absurd hj (by omega), fun j hj => absurd hj (by omega), fun j hj => absurd hj (by omega)⟩
  · simp at hcs
    obtain ⟨rfl, rfl, rfl⟩ := hcs
    have hlm : len ≤ mm := by rw [hmm]; split <;> omega
    have hb := hsz ((len + (mm - len)) * 16) (by rw [hx]; simp [DataW.weights, Yba.underlying39, bytes74])
    refine ⟨by omega, ?_⟩
    have each : ∀ j, j < len → ∃ r : Int × Int, W.cell? (a.add (j * 2)) = some (.int .u64 r.1) ∧ W.cell? (a.add (j * 2 + 1)) = some (.int .u8 r.2) ∧ (0 ≤ r.1 ∧ r.1 < 18446744073709551616) ∧ (0 ≤ r.2 ∧ r.2 ≤ 255) := by
      intro j hj
      obtain ⟨c0, c1, t0, t1⟩ := hcell j (by omega)
      obtain ⟨y, e0, _, hy⟩ := DataW.trod_int Yba.underlying37 t0
      obtain ⟨z, e1, _, hz⟩ := DataW.trod_int Yba.underlying5 t1
      simp at e0 e1
      have hyb := bounds_u64 hy
      exact ⟨(y, z), by rw [c0, e0], by rw [c1, e1], ⟨hyb.1, by have := hyb.2; show y < _; omega⟩, bounds_u8 hz⟩
    obtain ⟨r, hr⟩ := choose_lt each
    obtain ⟨b, off, spot⟩ := a
    by_cases h0 : 0 < len
    · have hspot : spot = none := by have := hr 0 h0; simpa [Addr.add] using World.cell?_spot this.1
      subst hspot
      refine ⟨b, off, fun j => (r j).1, fun j => (r j).2, fun _ => rfl, fun j hj => ?_, fun j hj => ?_, fun j hj => (hr j hj).2.2.1, fun j hj => (hr j hj).2.2.2⟩
      · rw [← add_plain]; exact (hr j hj).1
      · rw [Nat.add_assoc, ← add_plain]; exact (hr j hj).2.1
    · exact ⟨b, off, fun j => (r j).1, fun j => (r j).2, fun h => absurd h h0, fun j hj => absurd hj (by omega), fun j hj => absurd hj (by omega), fun j hj => absurd hj (by omega), fun j hj => absurd hj (by omega)⟩

set_option maxRecDepth 100000 in
theorem lifted (os : Os) (started : os.Started) (H : Type) (enc : TypeId × Value → H) :
    ReturnsInHanded {} Yba.checked os 4 .any (Rows.lawS7203CWholeSpec.pre6 enc Yba.prog Yba.f4 Rows.lawS7203CWholeRow.domain false) (Rows.lawS7203CWholeSpec.post enc Yba.prog Yba.f4 false true false false) := by
  refine returnsInHanded_of_change_sized (C := Yba.checked) own started (by kernel_rfl) Yba.func4
    (ChangeSpec.witness6 (enc := enc) (C := Yba.checked) false ⟨#[], #[.bool false, .int .u64 0, .slice none 0 0, .slice none 0 0], []⟩ 8 (by kernel_rfl) (by kernel_rfl) (by kernel_rfl) (by kernel_rfl)) ?_
  intro W base args ds gs before hval0 hW hcnd hsz0 _
  have hval : ∀ (j : Nat) t v, Yba.f4.params[j]? = some t → args[j]? = some v → Value.okWide Yba.prog W .any base t v := hval0
  have hsz : (DataW.weightsEach Yba.prog (Yba.f4.params.toList ++ Rows.lawS7203CWholeSpec.plain.varTypes Yba.prog) (ds ++ gs)).all (· ≤ reachBytes) = true := hsz0
  have hW' := hW
  obtain ⟨p, q, hA0, hV, rfl, hfz, hnd⟩ := hW
  have hA : DataW.TrodAll enc Yba.prog W 0 (fun _ => true) true Yba.f4.params.toList args.toList ds p := hA0
  rw [Yba.params4] at hA hval hsz
  obtain ⟨v0, vs0, d0, ds0, p0, q0, hargs, rfl, rfl, h0, r0⟩ := trodAll_cons hA
  obtain ⟨v1, vs1, d1, ds1, p1, q1, rfl, rfl, rfl, h1, r1⟩ := trodAll_cons r0
  obtain ⟨v2, vs2, d2, ds2, p2, q2, rfl, rfl, rfl, h2, r2⟩ := trodAll_cons r1
  obtain ⟨v3, vs3, d3, ds3, p3, q3, rfl, rfl, rfl, h3, r3⟩ := trodAll_cons r2
  obtain ⟨rfl, rfl, rfl⟩ := trodAll_nil r3
  obtain rfl : args = #[v0, v1, v2, v3] := by cases args; simp_all
  obtain ⟨rfl, rfl⟩ := trodVars_none hV
  have sz2 : ∀ n ∈ d2.weights Yba.prog 38, n ≤ reachBytes := by
    intro n hn
    have := List.all_eq_true.1 hsz n (DataW.weights_mem_each (j := 2) (t := 38) (d := d2) rfl rfl n hn)
    simpa using this
  have sz3 : ∀ n ∈ d3.weights Yba.prog 39, n ≤ reachBytes := by
    intro n hn
    have := List.all_eq_true.1 hsz n (DataW.weights_mem_each (j := 3) (t := 39) (d := d3) rfl rfl n hn)
    simpa using this
  obtain ⟨all, rfl, rfl, rfl⟩ := open_bool Yba.underlying4 (hval 0 4 v0 rfl rfl) h0
  obtain ⟨start, rfl, rfl, rfl, w1⟩ := open_int Yba.underlying37 (hval 1 37 v1 rfl rfl) h1
  have hp := bounds_u64 w1
  obtain ⟨s0, len0, cap0, rfl⟩ := okWide_slice Yba.underlying38 (hval 2 38 v2 rfl rfl)
  obtain ⟨s1, len1, cap1, rfl⟩ := okWide_slice Yba.underlying39 (hval 3 39 v3 rfl rfl)
  have k2 := h2
  have k3 := h3
  have lt2 : ∀ x ∈ p2, x.block < W.heap.size := by obtain ⟨m, hm⟩ := k2; exact DataW.trod_lt m _ _ _ hm
  have lt3 : ∀ x ∈ p3, x.block < W.heap.size := by obtain ⟨m, hm⟩ := k3; exact DataW.trod_lt m _ _ _ hm
  obtain ⟨fuel2, hf2⟩ := h2
  obtain ⟨fuel3, hf3⟩ := h3
  obtain ⟨hml, b, off, G, A, K, ha, c0, c1, c2, hG, hAA, hK⟩ := open_items (by simpa [Value.cells] using hf2) sz2
  obtain ⟨hmm, fb, fo, ct, T, hf, n0, n1, hC, hT⟩ := open_queries (by simpa [Value.cells] using hf3) sz3
  clear hA0 hval0
  simp only [reachBytes] at hml hmm
  have walk : Calls Yba.prog 4 #[.bool all, .int .u64 start, .slice s0 len0 cap0, .slice s1 len1 cap1] W fun e w' => e = .returned (.bool true) ∧ Below W.heap.size W w' := by
    by_cases hlong : len0 + len1 ≤ 65536
    · exact Go.Proofs.Ybulkesdo.C.lawC_walk all start s0 b off len0 cap0 G A K s1 fb fo len1 cap1 ct T W hlong hp.1 (by have := hp.2; omega) ha hf c0 c1 c2 hG hAA hK n0 n1 hC hT
    · exact walk_long all start s0 len0 cap0 s1 len1 cap1 W (by omega) (by omega)
  refine walk.mono fun e W' ⟨he, bel⟩ => ?_
  subst he
  exact ⟨_, rfl, _, _, _, [], _, [], hW', trodAll_mk1 (shut_bool Yba.underlying4 _), (trodAll_cons_mk (shut_bool Yba.underlying4 _) (trodAll_cons_mk (shut_int Yba.underlying37 w1) (trodAll_cons_mk (Below.trod laidOut (by kernel_rfl) (of_decide_eq_true (by kernel_rfl)) k2 bel lt2) (trodAll_cons_mk (Below.trod laidOut (by kernel_rfl) (of_decide_eq_true (by kernel_rfl)) k3 bel lt3) trodAll_mk0)))), rfl, bel.frame _, fun h => by cases h⟩

theorem over : Rows.lawS7203CWholeRow.holds Yba.pinned (OpenSpec.ofChange Rows.lawS7203CWholeSpec) :=
  OpenClaim.holds_of_wide 4 Yba.f4 rfl rfl rfl rfl rfl rfl rfl ⟨rfl, rfl, rfl, rfl, rfl⟩ rfl rfl rfl rfl rfl (by kernel_rfl) Yba.func4 (by kernel_rfl)
    (of_decide_eq_true (by kernel_rfl)) (by unfold Func.isWrapper; first | (rw [if_pos (by decide +kernel)]; kernel_rfl) | (rw [if_neg (by decide +kernel)]; exact ⟨rfl, rfl⟩))
    (fun os started H enc _ => lifted os started H enc)

end Go.Proofs.Ybulkesdo.lawC

namespace Go.Proofs.Ybulkesdo
theorem lawC_proved : Rows.LawS7203CWholeSaid := lawC.over

end Go.Proofs.Ybulkesdo
