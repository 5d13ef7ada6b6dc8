/-
  THE STATEMENT 'Rows.LawS7281CWholeSaid': the row out of the walk (YbulkettoCWalk).
-/
import Derived.Test.YbulkettoCWalk
import Derived.ProofKit
import Derived.OpenShut
import Derived.ShutString
import Derived.ChangeOld
import Derived.Deep.SlicePairs
namespace Go.Proofs.Ybulketto.lawC
open Go.ChangeShapes Go.WideShapes Go.ChangeAt Go.RowKit Go.Deep
open Go.ChangeMaps (open_string shut_string)
open Go.Proofs.Ybulketto.C

theorem own : ownKnob Yba.prog.godebug = none := by kernel_rfl
theorem laidOut : laidOutB Yba.prog = true := by kernel_rfl
theorem cells9 : Yba.prog.cellsOf 9 = 1 := by kernel_rfl
theorem cells4 : Yba.prog.cellsOf 4 = 1 := by kernel_rfl

theorem len1 {α : Type} {l : List α} (h : l.length = 1) : ∃ a, l = [a] := by
  match l, h with
  | [a], _ => exact ⟨a, rfl⟩

/-- A slice of strings, opened. -/
theorem open_keys {H : Type} {enc : TypeId × Value → H} {W : World} {fuel : Nat} {a0 : Option Addr} {len cap : Nat} {x : DataW H × List MemPlace}
    (h : DataW.trod enc Yba.prog W 0 (fun _ => true) true fuel 76 [.slice a0 len cap] = some x) :
    (a0 = none → len = 0) ∧ ∃ (b off : Nat) (K : Nat → ByteArray), (0 < len → a0 = some ⟨b, off, none⟩) ∧ (∀ j, j < len → W.cell? ⟨b, off + j, none⟩ = some (.string (K j))) ∧ (∀ j, j < len → (K j).size ≤ maxLen) := by
  rcases open_slice Yba.underlying76 h with ⟨hcs, _⟩ | ⟨a, len', cap', mm, n, D, Pl, hcs, _, hl, hm, hmm, _, hcell⟩
  · simp at hcs
    obtain ⟨rfl, rfl, rfl⟩ := hcs
    exact ⟨fun _ => rfl, 0, 0, fun _ => default, fun h => absurd h (by omega), fun j hj => absurd hj (by omega), fun j hj => absurd hj (by omega)⟩
  · simp at hcs
    obtain ⟨rfl, rfl, rfl⟩ := hcs
    refine ⟨(fun h => by cases h), ?_⟩
    have hlm : len ≤ mm := by rw [hmm]; split <;> omega
    have each : ∀ j, j < len → ∃ r : ByteArray, W.cell? (a.add j) = some (.string r) ∧ r.size ≤ maxLen := by
      intro j hj
      obtain ⟨cs', h1, h2⟩ := hcell j (by omega)
      rw [cells9] at h1
      obtain ⟨_, hlen, hc⟩ := World.cells?_some h1
      obtain ⟨v0, rfl⟩ := len1 hlen
      obtain ⟨s0, e0, _, hs⟩ := DataW.trod_string Yba.underlying9 h2
      simp at e0
      have c0 := hc 0 (by omega)
      rw [add_add] at c0
      exact ⟨s0, by simpa [e0] using c0, by simpa [Lit.wf] using hs⟩
    obtain ⟨r, hr⟩ := choose_lt each
    obtain ⟨b, off, spot⟩ := a
    by_cases h0 : 0 < len
    · have hspot : spot = none := by have := hr 0 h0; simpa [Addr.add] using World.cell?_spot this.1
      subst hspot
      refine ⟨b, off, r, fun _ => rfl, fun j hj => ?_, fun j hj => (hr j hj).2⟩
      rw [← add_plain]; exact (hr j hj).1
    · exact ⟨b, off, r, fun h => absurd h h0, fun j hj => absurd hj (by omega), fun j hj => absurd hj (by omega)⟩

/-- A slice of bools, opened. -/
theorem open_bools {H : Type} {enc : TypeId × Value → H} {W : World} {fuel : Nat} {a0 : Option Addr} {len cap : Nat} {x : DataW H × List MemPlace}
    (h : DataW.trod enc Yba.prog W 0 (fun _ => true) true fuel 83 [.slice a0 len cap] = some x) :
    ∃ (b off : Nat) (K : Nat → Bool), (0 < len → a0 = some ⟨b, off, none⟩) ∧ (∀ j, j < len → W.cell? ⟨b, off + j, none⟩ = some (.bool (K j))) := by
  rcases open_slice Yba.underlying83 h with ⟨hcs, _⟩ | ⟨a, len', cap', mm, n, D, Pl, hcs, _, hl, hm, hmm, _, hcell⟩
  · simp at hcs
    obtain ⟨rfl, rfl, rfl⟩ := hcs
    exact ⟨0, 0, fun _ => false, fun h => absurd h (by omega), fun j hj => absurd hj (by omega)⟩
  · simp at hcs
    obtain ⟨rfl, rfl, rfl⟩ := hcs
    have hlm : len ≤ mm := by rw [hmm]; split <;> omega
    have each : ∀ j, j < len → ∃ r : Bool, W.cell? (a.add j) = some (.bool r) := by
      intro j hj
      obtain ⟨cs', h1, h2⟩ := hcell j (by omega)
      rw [cells4] at h1
      obtain ⟨_, hlen, hc⟩ := World.cells?_some h1
      obtain ⟨v0, rfl⟩ := len1 hlen
      obtain ⟨s0, e0, _⟩ := DataW.trod_bool Yba.underlying4 h2
      simp at e0
      have c0 := hc 0 (by omega)
      rw [add_add] at c0
      exact ⟨s0, by simpa [e0] using c0⟩
    obtain ⟨r, hr⟩ := choose_lt each
    obtain ⟨b, off, spot⟩ := a
    by_cases h0 : 0 < len
    · have hspot : spot = none := by have := hr 0 h0; simpa [Addr.add] using World.cell?_spot this
      subst hspot
      refine ⟨b, off, r, fun _ => rfl, fun j hj => ?_⟩
      rw [← add_plain]; exact hr j hj
    · exact ⟨b, off, r, fun h => absurd h h0, fun j hj => absurd hj (by omega)⟩

set_option maxHeartbeats 400000 in
set_option maxRecDepth 100000 in
theorem walk_long (id0 : ByteArray) (pick : Int) (clipSame : Bool) (clip0 : ByteArray) (hc left : Bool) (fa : Option Addr) (fl fc : Nat) (sa : Option Addr) (sl sc : Nat) (va : Option Addr) (vl vc : Nat) (w : World) (h : 4096 < fl ∨ 4096 < sl) :
    Calls Yba.prog 5 #[.string id0, .int .u8 pick, .bool clipSame, .string clip0, .bool hc, .bool left, .slice fa fl fc, .slice sa sl sc, .slice va vl vc] w fun e w' => e = .returned (.bool true) ∧ Below w.heap.size w w' := by
  by_cases h1 : 4096 < fl
  · have hl : ((4096 : Int) < (fl : Int)) := by omega
    go_enter Yba.func5, Yba.ntmps5
    go_wp2
    go_ret
    exact ⟨rfl, Below.refl _ _⟩
  · have hl : ¬ ((4096 : Int) < (fl : Int)) := by omega
    have hl2 : ((4096 : Int) < (sl : Int)) := by omega
    go_enter Yba.func5, Yba.ntmps5
    go_wp2
    go_ret
    exact ⟨rfl, Below.refl _ _⟩

set_option maxHeartbeats 400000 in
set_option maxRecDepth 100000 in
theorem lifted (os : Os) (started : os.Started) (H : Type) (enc : TypeId × Value → H) :
    ReturnsInHanded {} Yba.checked os 5 .any (Rows.lawS7281CWholeSpec.pre6 enc Yba.prog Yba.f5 Rows.lawS7281CWholeRow.domain false) (Rows.lawS7281CWholeSpec.post enc Yba.prog Yba.f5 false true false false) := by
  refine returnsInHanded_of_change (C := Yba.checked) own started (by kernel_rfl) Yba.func5
    (ChangeSpec.witness6 (enc := enc) (C := Yba.checked) false ⟨#[], #[.string ByteArray.empty, .int .u8 0, .bool false, .string ByteArray.empty, .bool false, .bool false, .slice none 0 0, .slice none 0 0, .slice none 0 0], []⟩ 8 (by kernel_rfl) (by kernel_rfl) (by kernel_rfl) (by kernel_rfl)) ?_
  intro W base args ds gs before hval0 hW _ _
  have hval : ∀ (j : Nat) t v, Yba.f5.params[j]? = some t → args[j]? = some v → Value.okWide Yba.prog W .any base t v := hval0
  have hW' := hW
  obtain ⟨p, q, hA0, hV, rfl, _, _⟩ := hW
  have hA : DataW.TrodAll enc Yba.prog W 0 (fun _ => true) true Yba.f5.params.toList args.toList ds p := hA0
  rw [Yba.params5] at hA hval
  obtain ⟨v0, vs0, d0, ds0, p0, q0, hargs, rfl, rfl, h0, r0⟩ := trodAll_cons hA
  obtain ⟨v1, vs1, d1, ds1, p1, q1, rfl, rfl, rfl, h1, r1⟩ := trodAll_cons r0
  obtain ⟨v2, vs2, d2, ds2, p2, q2, rfl, rfl, rfl, h2, r2⟩ := trodAll_cons r1
  obtain ⟨v3, vs3, d3, ds3, p3, q3, rfl, rfl, rfl, h3, r3⟩ := trodAll_cons r2
  obtain ⟨v4, vs4, d4, ds4, p4, q4, rfl, rfl, rfl, h4, r4⟩ := trodAll_cons r3
  obtain ⟨v5, vs5, d5, ds5, p5, q5, rfl, rfl, rfl, h5, r5⟩ := trodAll_cons r4
  obtain ⟨v6, vs6, d6, ds6, p6, q6, rfl, rfl, rfl, h6, r6⟩ := trodAll_cons r5
  obtain ⟨v7, vs7, d7, ds7, p7, q7, rfl, rfl, rfl, h7, r7⟩ := trodAll_cons r6
  obtain ⟨v8, vs8, d8, ds8, p8, q8, rfl, rfl, rfl, h8, r8⟩ := trodAll_cons r7
  obtain ⟨rfl, rfl, rfl⟩ := trodAll_nil r8
  obtain rfl : args = #[v0, v1, v2, v3, v4, v5, v6, v7, v8] := by cases args; simp_all
  obtain ⟨rfl, rfl⟩ := trodVars_none hV
  have lt6 : ∀ x ∈ p6, x.block < W.heap.size := by obtain ⟨m, hm⟩ := h6; exact DataW.trod_lt m _ _ _ hm
  have lt7 : ∀ x ∈ p7, x.block < W.heap.size := by obtain ⟨m, hm⟩ := h7; exact DataW.trod_lt m _ _ _ hm
  have lt8 : ∀ x ∈ p8, x.block < W.heap.size := by obtain ⟨m, hm⟩ := h8; exact DataW.trod_lt m _ _ _ hm
  obtain ⟨id0, rfl, rfl, rfl, w0⟩ := open_string Yba.underlying9 (hval 0 9 v0 rfl rfl) h0
  obtain ⟨pick, rfl, rfl, rfl, w1⟩ := open_int Yba.underlying5 (hval 1 5 v1 rfl rfl) h1
  obtain ⟨cs, rfl, rfl, rfl⟩ := open_bool Yba.underlying4 (hval 2 4 v2 rfl rfl) h2
  obtain ⟨clip0, rfl, rfl, rfl, w3⟩ := open_string Yba.underlying9 (hval 3 9 v3 rfl rfl) h3
  obtain ⟨hc, rfl, rfl, rfl⟩ := open_bool Yba.underlying4 (hval 4 4 v4 rfl rfl) h4
  obtain ⟨left, rfl, rfl, rfl⟩ := open_bool Yba.underlying4 (hval 5 4 v5 rfl rfl) h5
  obtain ⟨fa, fl, fc, rfl⟩ := okWide_slice Yba.underlying76 (hval 6 76 v6 rfl rfl)
  obtain ⟨sa, sl, sc, rfl⟩ := okWide_slice Yba.underlying76 (hval 7 76 v7 rfl rfl)
  obtain ⟨va, vl, vc, rfl⟩ := okWide_slice Yba.underlying83 (hval 8 83 v8 rfl rfl)
  have k6 := h6
  have k7 := h7
  have k8 := h8
  obtain ⟨f6, hf6⟩ := h6
  obtain ⟨f7, hf7⟩ := h7
  obtain ⟨f8, hf8⟩ := h8
  obtain ⟨fn0, fb, fo, FK, hfa, hF, hFz⟩ := open_keys (by simpa [Value.cells] using hf6)
  obtain ⟨sn0, sb, so, SK, hsa, hS, hSz⟩ := open_keys (by simpa [Value.cells] using hf7)
  obtain ⟨vb, vo, V, hva, hVV⟩ := open_bools (by simpa [Value.cells] using hf8)
  clear hA0 hval0 hval hA r0 r1 r2 r3 r4 r5 r6 r7 r8
  have hp := bounds_u8 w1
  have hid0 : id0.size ≤ maxLen := by simpa [Lit.wf] using w0
  have walk : Calls Yba.prog 5 #[.string id0, .int .u8 pick, .bool cs, .string clip0, .bool hc, .bool left, .slice fa fl fc, .slice sa sl sc, .slice va vl vc] W fun e w' => e = .returned (.bool true) ∧ Below W.heap.size W w' := by
    by_cases hlong : fl ≤ 4096 ∧ sl ≤ 4096
    · exact lawC_walk id0 pick cs clip0 hc left fa fb fo fl fc FK sa sb so sl sc SK va vb vo vl vc V W hp.1 hp.2 hlong.1 hlong.2 hid0 fn0 sn0 hfa hsa hva hF hS hVV hFz hSz
    · exact walk_long id0 pick cs clip0 hc left fa fl fc sa sl sc va vl vc W (by omega)
  refine walk.mono fun e W' ⟨he, bel⟩ => ?_
  subst he
  exact ⟨_, rfl, _, _, _, [], _, [], hW', trodAll_mk1 (shut_bool Yba.underlying4 _),
    (trodAll_cons_mk (shut_string Yba.underlying9 w0) (trodAll_cons_mk (shut_int Yba.underlying5 w1) (trodAll_cons_mk (shut_bool Yba.underlying4 _) (trodAll_cons_mk (shut_string Yba.underlying9 w3)
      (trodAll_cons_mk (shut_bool Yba.underlying4 _) (trodAll_cons_mk (shut_bool Yba.underlying4 _)
      (trodAll_cons_mk (Below.trod laidOut (by kernel_rfl) (of_decide_eq_true (by kernel_rfl)) k6 bel lt6)
      (trodAll_cons_mk (Below.trod laidOut (by kernel_rfl) (of_decide_eq_true (by kernel_rfl)) k7 bel lt7)
      (trodAll_cons_mk (Below.trod laidOut (by kernel_rfl) (of_decide_eq_true (by kernel_rfl)) k8 bel lt8) trodAll_mk0))))))))), rfl, bel.frame _, fun h => by cases h⟩

theorem over : Rows.lawS7281CWholeRow.holds Yba.pinned (OpenSpec.ofChange Rows.lawS7281CWholeSpec) :=
  OpenClaim.holds_of_wide 5 Yba.f5 rfl rfl rfl rfl rfl rfl rfl ⟨rfl, rfl, rfl, rfl, rfl⟩ rfl rfl rfl rfl rfl (by kernel_rfl) Yba.func5 (by kernel_rfl)
    (of_decide_eq_true (by kernel_rfl)) (by unfold Func.isWrapper; first | (rw [if_pos (by decide +kernel)]; kernel_rfl) | (rw [if_neg (by decide +kernel)]; exact ⟨rfl, rfl⟩))
    (fun os started H enc _ => lifted os started H enc)

end Go.Proofs.Ybulketto.lawC

namespace Go.Proofs.Ybulketto
theorem lawC_proved : Rows.LawS7281CWholeSaid := lawC.over

end Go.Proofs.Ybulketto
