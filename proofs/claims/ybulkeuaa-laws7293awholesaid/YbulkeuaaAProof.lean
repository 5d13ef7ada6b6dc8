/-
  THE STATEMENT 'Rows.LawS7293AWholeSaid': the row out of the walk (YbulkeuaaAWalk).
-/
import Derived.Test.YbulkeuaaAWalk
import Derived.ProofKit
import Derived.OpenShut
import Derived.ShutString
import Derived.ChangeOld
import Derived.SizedLaws
import Derived.SliceStrings
import Derived.Deep.Strs
import Derived.Deep.SlicePairs
namespace Go.Proofs.Ybulkeuaa.lawA
open Go.ChangeShapes Go.WideShapes Go.ChangeAt Go.RowKit Go.Deep
open Go.ChangeMaps (open_string shut_string)

theorem own : ownKnob Yba.prog.godebug = none := by kernel_rfl
theorem laidOut : laidOutB Yba.prog = true := by kernel_rfl
theorem cells52 : Yba.prog.cellsOf 52 = 3 := by kernel_rfl
theorem cells9 : Yba.prog.cellsOf 9 = 1 := by kernel_rfl
theorem bytes52 : Yba.prog.bytesOf 52 = 48 := by kernel_rfl
theorem bytes9 : Yba.prog.bytesOf 9 = 16 := by kernel_rfl

set_option maxHeartbeats 400000 in
theorem walk_long (a0 : Option Addr) (len cap : Nat) (f0 : Option Addr) (m fc : Nat) (id : ByteArray) (settled : Bool) (w : World) (h : 1048576 < len + m) (hl : len ≤ 4611686018427387903) (hm : m ≤ 4611686018427387903) :
    Calls Yba.prog 3 #[.slice a0 len cap, .slice f0 m fc, .string id, .bool settled] w fun e w' => e = .returned (.bool true) ∧ Below w.heap.size w w' := by
  have hg : ((1048576 : Int) < (len : Int) + (m : Int)) := by omega
  have hw : IntKind.i64.wrap ((len : Int) + (m : Int)) = (len : Int) + (m : Int) := by rw [IntKind.wrap_i64]; omega
  go_enter Yba.func3, Yba.ntmps3
  go_wp2_with fail
  go_ret
  exact ⟨rfl, Below.refl _ _⟩

theorem len3 {α : Type} {l : List α} (h : l.length = 3) : ∃ a b c, l = [a, b, c] := by
  match l, h with
  | [a, b, c], _ => exact ⟨a, b, c, rfl⟩

/-- The refs that came in, opened. -/
theorem open_refs {H : Type} {enc : TypeId × Value → H} {W : World} {fuel : Nat} {a0 : Option Addr} {len cap : Nat} {x : DataW H × List MemPlace}
    (h : DataW.trod enc Yba.prog W 0 (fun _ => true) true fuel 22 [.slice a0 len cap] = some x) (hsz : ∀ n ∈ x.1.weights Yba.prog 22, n ≤ reachBytes) :
    len ≤ 4611686018427387903 ∧ (a0 = none → len = 0) ∧ ∃ (b off : Nat) (V R L : Nat → ByteArray), (0 < len → a0 = some ⟨b, off, none⟩) ∧
      (∀ j, j < len → W.cell? ⟨b, off + j * 3, none⟩ = some (.string (V j))) ∧ (∀ j, j < len → W.cell? ⟨b, off + j * 3 + 1, none⟩ = some (.string (R j))) ∧ (∀ j, j < len → W.cell? ⟨b, off + j * 3 + 2, none⟩ = some (.string (L j))) := by
  rcases open_slice Yba.underlying22 h with ⟨hcs, _⟩ | ⟨a, len', cap', mm, n, D, Pl, hcs, _, hl, hm, hmm, hx, hcell⟩
  · simp at hcs
    obtain ⟨rfl, rfl, rfl⟩ := hcs
    exact ⟨by decide, fun _ => rfl, 0, 0, fun _ => default, fun _ => default, fun _ => default, fun h => absurd h (by omega), fun j hj => absurd hj (by omega), fun j hj => absurd hj (by omega), fun j hj => absurd hj (by omega)⟩
  · simp at hcs
    obtain ⟨rfl, rfl, rfl⟩ := hcs
    have hlm : len ≤ mm := by rw [hmm]; split <;> omega
    refine ⟨?_, (fun h => by cases h), ?_⟩
    · have hb := hsz ((len + (mm - len)) * 48) (by rw [hx]; simp [DataW.weights, Yba.underlying22, bytes52])
      simp [reachBytes] at hb
      omega
    have each : ∀ j, j < len → ∃ r : ByteArray × ByteArray × ByteArray, W.cell? (a.add (j * 3)) = some (.string r.1) ∧ W.cell? (a.add (j * 3 + 1)) = some (.string r.2.1) ∧ W.cell? (a.add (j * 3 + 2)) = some (.string r.2.2) := by
      intro j hj
      obtain ⟨cs', h1, h2⟩ := hcell j (by omega)
      rw [cells52] at h1
      obtain ⟨_, hlen, hc⟩ := World.cells?_some h1
      obtain ⟨xs, k, hk, hxy, _, hxl, hf⟩ := DataW.trod_struct Yba.underlying52 h2
      obtain ⟨v0, v1, v2, rfl⟩ := len3 hlen
      have g0 := hf 0 _ rfl
      have g1 := hf 1 _ rfl
      have g2 := hf 2 _ rfl
      obtain ⟨y0, y1, y2, rfl⟩ := len3 (show xs.length = 3 from hxl)
      simp [cells9] at g0 g1 g2
      obtain ⟨s0, e0, _, _⟩ := DataW.trod_string Yba.underlying9 g0
      obtain ⟨s1, e1, _, _⟩ := DataW.trod_string Yba.underlying9 g1
      obtain ⟨s2, e2, _, _⟩ := DataW.trod_string Yba.underlying9 g2
      simp at e0 e1 e2
      have c0 := hc 0 (by omega)
      have c1 := hc 1 (by omega)
      have c2 := hc 2 (by omega)
      rw [add_add] at c0 c1 c2
      exact ⟨(s0, s1, s2), by simpa [e0] using c0, by simpa [e1] using c1, by simpa [e2] using c2⟩
    obtain ⟨r, hr⟩ := choose_lt each
    obtain ⟨b, off, spot⟩ := a
    by_cases h0 : 0 < len
    · have hspot : spot = none := by have := hr 0 h0; simpa [Addr.add] using World.cell?_spot this.1
      subst hspot
      refine ⟨b, off, fun j => (r j).1, fun j => (r j).2.1, fun j => (r j).2.2, fun _ => rfl, fun j hj => ?_, fun j hj => ?_, fun j hj => ?_⟩
      · rw [← add_plain]; exact (hr j hj).1
      · rw [Nat.add_assoc, ← add_plain]; exact (hr j hj).2.1
      · rw [Nat.add_assoc, ← add_plain]; exact (hr j hj).2.2
    · exact ⟨b, off, fun j => (r j).1, fun j => (r j).2.1, fun j => (r j).2.2, fun h => absurd h h0, fun j hj => absurd hj (by omega), fun j hj => absurd hj (by omega), fun j hj => absurd hj (by omega)⟩

/-- The files that came in, opened. -/
theorem open_files {H : Type} {enc : TypeId × Value → H} {W : World} {fuel : Nat} {a0 : Option Addr} {len cap : Nat} {x : DataW H × List MemPlace}
    (h : DataW.trod enc Yba.prog W 0 (fun _ => true) true fuel 23 [.slice a0 len cap] = some x) (hsz : ∀ n ∈ x.1.weights Yba.prog 23, n ≤ reachBytes) :
    len ≤ 4611686018427387903 ∧ (a0 = none → len = 0) ∧ ∃ (b off : Nat) (S : Nat → ByteArray), (0 < len → a0 = some ⟨b, off, none⟩) ∧ ∀ j, j < len → W.cell? ⟨b, off + j, none⟩ = some (.string (S j)) := by
  rcases open_strings Yba.underlying23 Yba.underlying9 cells9 h with ⟨hcs, _⟩ | ⟨a, len', cap', ss, hcs, _, hl, hm, hmm, hx, hcell, _⟩
  · simp at hcs
    obtain ⟨rfl, rfl, rfl⟩ := hcs
    exact ⟨by decide, fun _ => rfl, 0, 0, fun _ => default, fun h => absurd h (by omega), fun j hj => absurd hj (by omega)⟩
  · simp at hcs
    obtain ⟨rfl, rfl, rfl⟩ := hcs
    have hlm : len ≤ ss.length := by rw [hmm]; split <;> omega
    refine ⟨?_, (fun h => by cases h), ?_⟩
    · have hb := hsz (((ss.take len).length + (ss.drop len).length) * 16) (by rw [hx]; simp [DataW.weights, Yba.underlying23, bytes9, strs])
      simp [reachBytes] at hb
      omega
    · obtain ⟨b, off, spot⟩ := a
      by_cases h0 : 0 < len
      · have hspot : spot = none := by have := hcell 0 (by omega); simpa [Addr.add] using World.cell?_spot this
        subst hspot
        refine ⟨b, off, fun j => ss.getD j ByteArray.empty, fun _ => rfl, fun j hj => ?_⟩
        rw [← add_plain]; exact hcell j (by omega)
      · exact ⟨b, off, fun _ => default, fun h => absurd h h0, fun j hj => absurd hj (by omega)⟩

set_option maxRecDepth 100000 in
theorem lifted (os : Os) (started : os.Started) (H : Type) (enc : TypeId × Value → H) :
    ReturnsInHanded {} Yba.checked os 3 .any (Rows.lawS7293AWholeSpec.pre6 enc Yba.prog Yba.f3 Rows.lawS7293AWholeRow.domain false) (Rows.lawS7293AWholeSpec.post enc Yba.prog Yba.f3 false true false false) := by
  refine returnsInHanded_of_change_sized (C := Yba.checked) own started (by kernel_rfl) Yba.func3
    (ChangeSpec.witness6 (enc := enc) (C := Yba.checked) false ⟨#[], #[.slice none 0 0, .slice none 0 0, .string ByteArray.empty, .bool false], []⟩ 8 (by kernel_rfl) (by kernel_rfl) (by kernel_rfl) (by kernel_rfl)) ?_
  intro W base args ds gs before hval0 hW hcnd hsz0 _
  have hval : ∀ (j : Nat) t v, Yba.f3.params[j]? = some t → args[j]? = some v → Value.okWide Yba.prog W .any base t v := hval0
  have hsz : (DataW.weightsEach Yba.prog (Yba.f3.params.toList ++ Rows.lawS7293AWholeSpec.plain.varTypes Yba.prog) (ds ++ gs)).all (· ≤ reachBytes) = true := hsz0
  have hW' := hW
  obtain ⟨p, q, hA0, hV, rfl, hfz, hnd⟩ := hW
  have hA : DataW.TrodAll enc Yba.prog W 0 (fun _ => true) true Yba.f3.params.toList args.toList ds p := hA0
  rw [Yba.params3] at hA hval hsz
  obtain ⟨v0, vs0, d0, ds0, p0, q0, hargs, rfl, rfl, h0, r0⟩ := trodAll_cons hA
  obtain ⟨v1, vs1, d1, ds1, p1, q1, rfl, rfl, rfl, h1, r1⟩ := trodAll_cons r0
  obtain ⟨v2, vs2, d2, ds2, p2, q2, rfl, rfl, rfl, h2, r2⟩ := trodAll_cons r1
  obtain ⟨v3, vs3, d3, ds3, p3, q3, rfl, rfl, rfl, h3, r3⟩ := trodAll_cons r2
  obtain ⟨rfl, rfl, rfl⟩ := trodAll_nil r3
  obtain rfl : args = #[v0, v1, v2, v3] := by cases args; simp_all
  obtain ⟨rfl, rfl⟩ := trodVars_none hV
  obtain ⟨a0, len, cap, rfl⟩ := okWide_slice Yba.underlying22 (hval 0 22 v0 rfl rfl)
  obtain ⟨f0, m, fc, rfl⟩ := okWide_slice Yba.underlying23 (hval 1 23 v1 rfl rfl)
  have k0 := h0
  have k1 := h1
  have lt0 : ∀ x ∈ p0, x.block < W.heap.size := by obtain ⟨m, hm⟩ := k0; exact DataW.trod_lt m _ _ _ hm
  have lt1 : ∀ x ∈ p1, x.block < W.heap.size := by obtain ⟨m, hm⟩ := k1; exact DataW.trod_lt m _ _ _ hm
  have sz0 : ∀ n ∈ d0.weights Yba.prog 22, n ≤ reachBytes := by
    intro n hn
    have := List.all_eq_true.1 hsz n (DataW.weights_mem_each (j := 0) (t := 22) (d := d0) rfl rfl n hn)
    simpa using this
  have sz1 : ∀ n ∈ d1.weights Yba.prog 23, n ≤ reachBytes := by
    intro n hn
    have := List.all_eq_true.1 hsz n (DataW.weights_mem_each (j := 1) (t := 23) (d := d1) rfl rfl n hn)
    simpa using this
  obtain ⟨fuel0, hf0⟩ := h0
  obtain ⟨fuel1, hf1⟩ := h1
  obtain ⟨hl0, hn0, b, off, V, R, L, ha, hV0, hV1, hV2⟩ := open_refs (by simpa [Value.cells] using hf0) sz0
  obtain ⟨hl1, hn1, fb, fo, S, hf, hS⟩ := open_files (by simpa [Value.cells] using hf1) sz1
  obtain ⟨id, rfl, rfl, rfl, w2⟩ := open_string Yba.underlying9 (hval 2 9 v2 rfl rfl) h2
  obtain ⟨settled, rfl, rfl, rfl⟩ := open_bool Yba.underlying4 (hval 3 4 v3 rfl rfl) h3
  clear hA0 hval0
  have walk : Calls Yba.prog 3 #[.slice a0 len cap, .slice f0 m fc, .string id, .bool settled] W fun e w' => e = .returned (.bool true) ∧ Below W.heap.size W w' := by
    by_cases hlong : len + m ≤ 1048576
    · exact lawA_walk a0 b off len cap V R L f0 fb fo m fc S id settled W hlong hn0 ha hn1 hf hV0 hV1 hV2 hS
    · exact walk_long a0 len cap f0 m fc id settled W (by omega) hl0 hl1
  refine walk.mono fun e W' ⟨he, bel⟩ => ?_
  subst he
  exact ⟨_, rfl, _, _, _, [], _, [], hW', trodAll_mk1 (shut_bool Yba.underlying4 _), (trodAll_cons_mk (Below.trod laidOut (by kernel_rfl) (of_decide_eq_true (by kernel_rfl)) k0 bel lt0) (trodAll_cons_mk (Below.trod laidOut (by kernel_rfl) (of_decide_eq_true (by kernel_rfl)) k1 bel lt1) (trodAll_cons_mk (shut_string Yba.underlying9 w2) (trodAll_cons_mk (shut_bool Yba.underlying4 _) trodAll_mk0)))), rfl, bel.frame _, fun h => by cases h⟩

theorem over : Rows.lawS7293AWholeRow.holds Yba.pinned (OpenSpec.ofChange Rows.lawS7293AWholeSpec) :=
  OpenClaim.holds_of_wide 3 Yba.f3 rfl rfl rfl rfl rfl rfl rfl ⟨rfl, rfl, rfl, rfl, rfl⟩ rfl rfl rfl rfl rfl (by kernel_rfl) Yba.func3 (by kernel_rfl)
    (of_decide_eq_true (by kernel_rfl)) (by unfold Func.isWrapper; first | (rw [if_pos (by decide +kernel)]; kernel_rfl) | (rw [if_neg (by decide +kernel)]; exact ⟨rfl, rfl⟩))
    (fun os started H enc _ => lifted os started H enc)

end Go.Proofs.Ybulkeuaa.lawA

namespace Go.Proofs.Ybulkeuaa
theorem lawA_proved : Rows.LawS7293AWholeSaid := lawA.over

end Go.Proofs.Ybulkeuaa
