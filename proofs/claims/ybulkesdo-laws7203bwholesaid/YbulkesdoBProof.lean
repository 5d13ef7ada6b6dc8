/-
  THE STATEMENT 'Rows.LawS7203BWholeSaid': the row out of the walk (YbulkesdoBWalk).
-/
import Derived.Test.YbulkesdoBWalk
import Derived.ProofKit
import Derived.OpenShut
import Derived.ShutString
import Derived.ChangeOld
import Derived.SizedLaws
import Derived.Deep.SlicePairs
namespace Go.Proofs.Ybulkesdo.lawB
open Go.ChangeShapes Go.WideShapes Go.ChangeAt Go.RowKit Go.Deep
open Go.ChangeMaps (open_string shut_string)

theorem own : ownKnob Yba.prog.godebug = none := by kernel_rfl
theorem laidOut : laidOutB Yba.prog = true := by kernel_rfl
theorem cells27 : Yba.prog.cellsOf 27 = 2 := by kernel_rfl
theorem cells9 : Yba.prog.cellsOf 9 = 1 := by kernel_rfl
theorem cells25 : Yba.prog.cellsOf 25 = 1 := by kernel_rfl
theorem cells5 : Yba.prog.cellsOf 5 = 1 := by kernel_rfl
theorem bytes5 : Yba.prog.bytesOf 5 = 1 := by kernel_rfl

theorem mem_all {H : Type} {P : Program} {e : TypeId} : ∀ {ds : List (DataW H)} {d : DataW H}, d ∈ ds → ∀ n ∈ d.weights P e, n ∈ DataW.weightsAll P e ds
  | d0 :: ds, d, hd, n, hn => by
    simp only [DataW.weightsAll, List.mem_append]
    rcases List.mem_cons.1 hd with rfl | h
    · exact .inl hn
    · exact .inr (mem_all h n hn)
  | [], d, hd, n, hn => by cases hd

set_option maxHeartbeats 400000 in
theorem walk_long (a0 : Option Addr) (len cap : Nat) (name : ByteArray) (w : World) (h : 1048576 < len) (hm : len ≤ 9223372036854775807) :
    Calls Yba.prog 3 #[.slice a0 len cap, .string name] w fun e w' => e = .returned (.bool true) ∧ Below w.heap.size w w' := by
  have hl : ((1048576 : Int) < (len : Int)) := by omega
  have hm' : (len : Int) ≤ 9223372036854775807 := by omega
  go_enter Yba.func3, Yba.ntmps3
  go_wp2
  go_ret
  exact ⟨rfl, Below.refl _ _⟩

/-- The members that came in, opened. -/
theorem open_members {H : Type} {enc : TypeId × Value → H} {W : World} {fuel : Nat} {a0 : Option Addr} {len cap : Nat} {d : DataW H} {pl : List MemPlace}
    (h : DataW.trod enc Yba.prog W 0 (fun _ => true) true fuel 22 [.slice a0 len cap] = some (d, pl)) (hsz : ∀ n ∈ d.weights Yba.prog 22, n ≤ reachBytes) :
    len ≤ maxLen ∧ ∃ (b off : Nat) (S : Nat → ByteArray) (p : Nat → Option Addr) (m c : Nat → Nat) (xs : Nat → List Int), m len = 0 ∧ (0 < len → a0 = some ⟨b, off, none⟩) ∧
      (∀ j, j < len → W.cell? ⟨b, off + j * 2, none⟩ = some (.string (S j))) ∧ (∀ j, j < len → W.cell? ⟨b, off + j * 2 + 1, none⟩ = some (.slice (p j) (m j) (c j))) ∧ ∀ j, j < len → Src W (p j) (m j) (xs j) := by
  rcases open_slice_pairs Yba.underlying22 Yba.underlying27 cells27 rfl rfl cells9 cells25 h with ⟨hcs, _⟩ | ⟨a, len', cap', mm, n, V0, V1, D0, D1, P0, P1, hcs, _, hl, hm, hmm, hx, hcell⟩
  · simp at hcs
    obtain ⟨rfl, rfl, rfl⟩ := hcs
    exact ⟨by decide, 0, 0, fun _ => default, fun _ => none, fun _ => 0, fun _ => 0, fun _ => [], rfl, fun h => absurd h (by omega), fun j hj => absurd hj (by omega), fun j hj => absurd hj (by omega), fun j hj => absurd hj (by omega)⟩
  · simp at hcs
    obtain ⟨rfl, rfl, rfl⟩ := hcs
    refine ⟨by omega, ?_⟩
    have hlm : len ≤ mm := by rw [hmm]; split <;> omega
    simp only [Prod.mk.injEq] at hx
    obtain ⟨rfl, _⟩ := hx
    have each : ∀ j, ∃ r : ByteArray × Option Addr × Nat × Nat × List Int, (j = len → r.2.2.1 = 0) ∧ (j < len → W.cell? (a.add (j * 2)) = some (.string r.1) ∧ W.cell? (a.add (j * 2 + 1)) = some (.slice r.2.1 r.2.2.1 r.2.2.2.1) ∧ Src W r.2.1 r.2.2.1 r.2.2.2.2) := by
      intro j
      by_cases hj : j < len
      · obtain ⟨c0, c1, t0, t1⟩ := hcell j (by omega)
        obtain ⟨s, e0, _, _⟩ := DataW.trod_string Yba.underlying9 t0
        simp at e0
        have hw1 : ∀ n ∈ (D1 j).weights Yba.prog 25, n ≤ reachBytes := by
          intro n hn
          refine hsz n ?_
          simp only [DataW.weights, Yba.underlying22]
          refine List.mem_cons_of_mem _ (List.mem_append_left _ (mem_all (List.mem_map.2 ⟨j, List.mem_range.2 hj, rfl⟩) n ?_))
          simp only [DataW.weights, Yba.underlying27]
          exact DataW.weights_mem_each (j := 1) rfl rfl n hn
        rcases open_ints Yba.underlying25 Yba.underlying5 cells5 t1 with ⟨h1, h2⟩ | ⟨x, l, cp, zs, h1, _, hl1, hm1, hz1, h2, hc1, _⟩
        · simp at h1
          exact ⟨(s, none, 0, 0, []), fun _ => rfl, fun _ => ⟨by rw [c0, e0], by rw [c1, h1], rfl, Nat.zero_le _, .inl ⟨rfl, rfl⟩⟩⟩
        · simp at h1
          simp only [Prod.mk.injEq] at h2
          have hb := hw1 ((zs.take l).length + (zs.drop l).length) (by rw [h2.1]; simp [DataW.weights, Yba.underlying25, bytes5, lits])
          simp only [if_true] at hz1
          simp [reachBytes] at hb
          refine ⟨(s, some x, l, cp, zs.take l), fun h => absurd h (by omega), fun _ => ⟨by rw [c0, e0], by rw [c1, h1], by simp; omega, ?_, .inr ⟨x, rfl, fun i hi => ?_⟩⟩⟩
          · show l ≤ _
            omega
          · have hi' : i < l := hi
            rw [hc1 i (by omega)]
            simp [List.getD, hi']
      · exact ⟨(default, none, 0, 0, []), fun _ => rfl, fun h => absurd h hj⟩
    have pick := fun j => Classical.choose_spec (each j)
    generalize hr : (fun j => Classical.choose (each j)) = r at *
    have pick' : ∀ j, (j = len → (r j).2.2.1 = 0) ∧ (j < len → W.cell? (a.add (j * 2)) = some (.string (r j).1) ∧ W.cell? (a.add (j * 2 + 1)) = some (.slice (r j).2.1 (r j).2.2.1 (r j).2.2.2.1) ∧ Src W (r j).2.1 (r j).2.2.1 (r j).2.2.2.2) := by
      intro j; rw [← hr]; exact pick j
    clear pick hr
    obtain ⟨b, off, spot⟩ := a
    by_cases h0 : 0 < len
    · have hspot : spot = none := by have := (pick' 0).2 h0; simpa [Addr.add] using World.cell?_spot this.1
      subst hspot
      refine ⟨b, off, fun j => (r j).1, fun j => (r j).2.1, fun j => (r j).2.2.1, fun j => (r j).2.2.2.1, fun j => (r j).2.2.2.2, (pick' len).1 rfl, fun _ => rfl, fun j hj => ?_, fun j hj => ?_, fun j hj => ((pick' j).2 hj).2.2⟩
      · rw [← add_plain]; exact ((pick' j).2 hj).1
      · rw [Nat.add_assoc, ← add_plain]; exact ((pick' j).2 hj).2.1
    · exact ⟨b, off, fun j => (r j).1, fun j => (r j).2.1, fun j => (r j).2.2.1, fun j => (r j).2.2.2.1, fun j => (r j).2.2.2.2, (pick' len).1 rfl, fun h => absurd h h0, fun j hj => absurd hj (by omega), fun j hj => absurd hj (by omega), fun j hj => absurd hj (by omega)⟩

set_option maxRecDepth 100000 in
theorem lifted (os : Os) (started : os.Started) (H : Type) (enc : TypeId × Value → H) :
    ReturnsInHanded {} Yba.checked os 3 .any (Rows.lawS7203BWholeSpec.pre6 enc Yba.prog Yba.f3 Rows.lawS7203BWholeRow.domain false) (Rows.lawS7203BWholeSpec.post enc Yba.prog Yba.f3 false true false false) := by
  refine returnsInHanded_of_change_sized (C := Yba.checked) own started (by kernel_rfl) Yba.func3
    (ChangeSpec.witness6 (enc := enc) (C := Yba.checked) false ⟨#[], #[.slice none 0 0, .string ByteArray.empty], []⟩ 8 (by kernel_rfl) (by kernel_rfl) (by kernel_rfl) (by kernel_rfl)) ?_
  intro W base args ds gs before hval0 hW hcnd hsz0 _
  have hval : ∀ (j : Nat) t v, Yba.f3.params[j]? = some t → args[j]? = some v → Value.okWide Yba.prog W .any base t v := hval0
  have hsz : (DataW.weightsEach Yba.prog (Yba.f3.params.toList ++ Rows.lawS7203BWholeSpec.plain.varTypes Yba.prog) (ds ++ gs)).all (· ≤ reachBytes) = true := hsz0
  have hW' := hW
  obtain ⟨p, q, hA0, hV, rfl, hfz, hnd⟩ := hW
  have hA : DataW.TrodAll enc Yba.prog W 0 (fun _ => true) true Yba.f3.params.toList args.toList ds p := hA0
  rw [Yba.params3] at hA hval hsz
  obtain ⟨v0, vs0, d0, ds0, p0, q0, hargs, rfl, rfl, h0, r0⟩ := trodAll_cons hA
  obtain ⟨v1, vs1, d1, ds1, p1, q1, rfl, rfl, rfl, h1, r1⟩ := trodAll_cons r0
  obtain ⟨rfl, rfl, rfl⟩ := trodAll_nil r1
  obtain rfl : args = #[v0, v1] := by cases args; simp_all
  obtain ⟨rfl, rfl⟩ := trodVars_none hV
  obtain ⟨a0, len0, cap0, rfl⟩ := okWide_slice Yba.underlying22 (hval 0 22 v0 rfl rfl)
  have k0 := h0
  have lt0 : ∀ x ∈ p0, x.block < W.heap.size := by obtain ⟨m, hm⟩ := k0; exact DataW.trod_lt m _ _ _ hm
  have hsz1 : ∀ n ∈ d0.weights Yba.prog 22, n ≤ reachBytes := by
    intro n hn
    have := List.all_eq_true.1 hsz n (DataW.weights_mem_each (j := 0) (t := 22) (d := d0) rfl rfl n hn)
    simpa using this
  obtain ⟨fuel, hf⟩ := h0
  obtain ⟨hml, b, off, S, pp, m, c, xs, hm0, ha, hS, hVV, hB⟩ := open_members (by simpa [Value.cells] using hf) hsz1
  obtain ⟨a1, rfl, rfl, rfl, w1⟩ := open_string Yba.underlying9 (hval 1 9 v1 rfl rfl) h1
  clear hA0 hval0
  have walk : Calls Yba.prog 3 #[.slice a0 len0 cap0, .string a1] W fun e w' => e = .returned (.bool true) ∧ Below W.heap.size W w' := by
    by_cases hlong : len0 ≤ 1048576
    · exact law_walk a0 b off len0 cap0 a1 W S pp m c xs hm0 ha hlong hS hVV hB
    · exact walk_long a0 len0 cap0 a1 W (by omega) hml
  refine walk.mono fun e W' ⟨he, bel⟩ => ?_
  subst he
  exact ⟨_, rfl, _, _, _, [], _, [], hW', trodAll_mk1 (shut_bool Yba.underlying4 _), (trodAll_cons_mk (Below.trod laidOut (by kernel_rfl) (of_decide_eq_true (by kernel_rfl)) k0 bel lt0) (trodAll_cons_mk (shut_string Yba.underlying9 w1) trodAll_mk0)), rfl, bel.frame _, fun h => by cases h⟩

theorem over : Rows.lawS7203BWholeRow.holds Yba.pinned (OpenSpec.ofChange Rows.lawS7203BWholeSpec) :=
  OpenClaim.holds_of_wide 3 Yba.f3 rfl rfl rfl rfl rfl rfl rfl ⟨rfl, rfl, rfl, rfl, rfl⟩ rfl rfl rfl rfl rfl (by kernel_rfl) Yba.func3 (by kernel_rfl)
    (of_decide_eq_true (by kernel_rfl)) (by unfold Func.isWrapper; first | (rw [if_pos (by decide +kernel)]; kernel_rfl) | (rw [if_neg (by decide +kernel)]; exact ⟨rfl, rfl⟩))
    (fun os started H enc _ => lifted os started H enc)

end Go.Proofs.Ybulkesdo.lawB

namespace Go.Proofs.Ybulkesdo
theorem lawB_proved : Rows.LawS7203BWholeSaid := lawB.over

end Go.Proofs.Ybulkesdo
