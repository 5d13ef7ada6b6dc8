/-
  THE STATEMENT 'Rows.LawS7280BWholeToldSaid': the told and tied card out of the walk (YbulkettaFmtBWalk).
-/
import Derived.Test.YbulkettaFmtBWalk
import Derived.Test.YbulkettaFmtTie
import Derived.Test.YbulkettaFmtCards
import Derived.ProofKit
import Derived.OpenShut
import Derived.ShutString
import Derived.ChangeOld
import Derived.SizedLaws
import Derived.Deep.SlicePairs
import Derived.Stop.JoinedAt
import Derived.Stop.JoinedTold
import Derived.Stop.Texts
import Derived.Stop.LaidErr
import Derived.Stop.LaidTwo
import Derived.SevenToldRow
import Derived.SevenTiedAt
namespace Go.Proofs.YbulkettaFmt.lawB
open Go.ChangeShapes Go.WideShapes Go.ChangeAt Go.RowKit Go.Deep Go.Kit
open Go.ChangeMaps (open_string shut_string)
open Go.Extern.Stop Go.Stop Go.Extern
open Go.Proofs.YbulkettaFmt.B

theorem own : ownKnob Ybaf.prog.godebug = none := by kernel_rfl
theorem laidOut : laidOutB Ybaf.pinned.checked.prog = true := by kernel_rfl
theorem stops : Ybaf.pinned.checked.prog.stops = ["fmt.errorf"] := by kernel_rfl
theorem stopKnobs : Ybaf.pinned.checked.prog.stopKnobs = [] := by kernel_rfl
theorem quiet (os : Os) : Stop.quiet Ybaf.pinned.checked.prog os := by
  intro k hk
  rw [stopKnobs] at hk
  cases hk
theorem cells49 : Ybaf.prog.cellsOf 49 = 2 := by kernel_rfl
theorem cells66 : Ybaf.prog.cellsOf 66 = 2 := by kernel_rfl
theorem cells9 : Ybaf.prog.cellsOf 9 = 1 := by kernel_rfl
theorem cells5 : Ybaf.prog.cellsOf 5 = 1 := by kernel_rfl
theorem cells4 : Ybaf.prog.cellsOf 4 = 1 := by kernel_rfl
theorem cells113 : Ybaf.prog.cellsOf 113 = 1 := by kernel_rfl
theorem bytes49 : Ybaf.prog.bytesOf 49 = 2 := by kernel_rfl
theorem bytes66 : Ybaf.prog.bytesOf 66 = 24 := by kernel_rfl
abbrev nF : String := Rows.lawS7280BWholeSpec.vars.headD ""
abbrev nS : String := Rows.lawS7280BWholeSpec.vars.tail.headD ""
theorem gF : Ybaf.prog.globalNamed nF = some 0 := by kernel_rfl
theorem gFType : (Ybaf.prog.globals[0]?).map (·.type) = some 71 := by kernel_rfl
theorem gS : Ybaf.prog.globalNamed nS = some 1 := by kernel_rfl
theorem gSType : (Ybaf.prog.globals[1]?).map (·.type) = some 71 := by kernel_rfl
/-- The one row of that name. -/
theorem row111 (u : TypeId) (h : Ybaf.prog.typeName? 3 u = Ybaf.prog.typeName? 3 111) : u = 111 :=
  typeName_ptr_named (P := Ybaf.prog) (nm := "errors.errorString") (by kernel_rfl) (by kernel_rfl) (by decide) u (h.trans (by kernel_rfl))

/-! ### One start that fits: the sentinels as their initialisers lay them -/
def textF : ByteArray := ⟨#[110, 111, 116, 32, 114, 101, 103, 105, 115, 116, 101, 114, 101, 100]⟩
def textS : ByteArray := ⟨#[115, 112, 111, 110, 115, 111, 114, 101, 100, 32, 98, 121, 32, 97, 110, 111, 116, 104, 101, 114, 32, 114, 101, 103, 105, 115, 116, 114, 97, 114]⟩
def low (P : Program) : Nat := (World.holding P default ⟨#[], #[], []⟩).heap.size
def laidWorld (P : Program) (os : Os) : World :=
  let w0 := World.holding P os ⟨#[.cells #[.string textF] 113, .cells #[.string textS] 113], #[], []⟩
  { w0 with heap := (w0.heap.modify 0 fun
      | .cells _ t frozen => .cells #[.iface 111 (.pointer (some ⟨low P, 0, none⟩))] t frozen
      | o => o).modify 1 fun
      | .cells _ t frozen => .cells #[.iface 111 (.pointer (some ⟨low P + 1, 0, none⟩))] t frozen
      | o => o }
theorem laid_met (os : Os) (args : Array Value) : laidMet Ybaf.prog Rows.lawS7280BWholeRow.laid ((laidWorld Ybaf.prog os).forCall (fun _ _ => 0) ⟨#[], args, []⟩).memory :=
  laidMet_of_run' 8 (by kernel_rfl) (by kernel_rfl)

set_option maxHeartbeats 400000 in
set_option maxRecDepth 100000 in
theorem walk_long (reg : ByteArray) (sel : Int) (a0 : Option Addr) (len cap : Nat) (f0 : Option Addr) (m fc : Nat) (w : World) (h : 1048576 < len + m) (hm : len + m ≤ 9223372036854775807) :
    Calls Ybaf.prog 3 #[.string reg, .int .u8 sel, .slice a0 len cap, .slice f0 m fc] w fun e w' => e = .returned (.bool true) ∧ Below w.heap.size w w' := by
  have hl : ((1048576 : Int) < (len : Int) + (m : Int)) := by omega
  have hw : IntKind.i64.wrap ((len : Int) + (m : Int)) = (len : Int) + (m : Int) := by rw [IntKind.wrap_i64]; omega
  have hw' : wrap64 ((len : Int) + (m : Int)) = (len : Int) + (m : Int) := by unfold wrap64; omega
  go_enter Ybaf.func3, Ybaf.ntmps3
  go_wp2
  go_ret
  exact ⟨rfl, Below.refl _ _⟩

/-- The contacts held, opened. -/
theorem open_held {H : Type} {enc : TypeId × Value → H} {W : World} {fuel : Nat} {a0 : Option Addr} {len cap : Nat} {x : DataW H × List MemPlace}
    (h : DataW.trod enc Ybaf.prog W 0 (fun _ => true) true fuel 22 [.slice a0 len cap] = some x) (hsz : ∀ n ∈ x.1.weights Ybaf.prog 22, n ≤ reachBytes) :
    len ≤ reachBytes ∧ ∃ (b off : Nat) (X : Nat → Int) (O : Nat → Bool), (0 < len → a0 = some ⟨b, off, none⟩) ∧
      (∀ j, j < len → W.cell? ⟨b, off + j * 2, none⟩ = some (.int .u8 (X j))) ∧ (∀ j, j < len → W.cell? ⟨b, off + j * 2 + 1, none⟩ = some (.bool (O j))) ∧ (∀ j, j < len → 0 ≤ X j ∧ X j ≤ 255) := by
  rcases open_slice_pairs Ybaf.underlying22 Ybaf.underlying49 cells49 rfl rfl cells5 cells4 h with ⟨hcs, _⟩ | ⟨a, len', cap', mm, n, V0, V1, D0, D1, P0, P1, hcs, _, hl, hm, hmm, hx, hcell⟩
  · simp at hcs
    obtain ⟨rfl, rfl, rfl⟩ := hcs
    exact ⟨by decide, 0, 0, fun _ => 0, fun _ => false, fun h => absurd h (by omega), fun j hj => absurd hj (by omega), fun j hj => absurd hj (by omega), fun j hj => absurd hj (by omega)⟩
  · simp at hcs
    obtain ⟨rfl, rfl, rfl⟩ := hcs
    have hlm : len ≤ mm := by rw [hmm]; split <;> omega
    have hb := hsz ((len + (mm - len)) * 2) (by rw [hx]; simp [DataW.weights, Ybaf.underlying22, bytes49])
    refine ⟨by omega, ?_⟩
    have each : ∀ j, j < len → ∃ r : Int × Bool, W.cell? (a.add (j * 2)) = some (.int .u8 r.1) ∧ W.cell? (a.add (j * 2 + 1)) = some (.bool r.2) ∧ 0 ≤ r.1 ∧ r.1 ≤ 255 := by
      intro j hj
      obtain ⟨c0, c1, t0, t1⟩ := hcell j (by omega)
      obtain ⟨z, e0, _, hz⟩ := DataW.trod_int Ybaf.underlying5 t0
      obtain ⟨o, e1, _⟩ := DataW.trod_bool Ybaf.underlying4 t1
      simp at e0 e1
      have hzb := bounds_u8 hz
      exact ⟨(z, o), by rw [c0, e0], by rw [c1, e1], hzb.1, hzb.2⟩
    obtain ⟨r, hr⟩ := choose_lt each
    obtain ⟨b, off, spot⟩ := a
    by_cases h0 : 0 < len
    · have hspot : spot = none := by have := hr 0 h0; simpa [Addr.add] using World.cell?_spot this.1
      subst hspot
      refine ⟨b, off, fun j => (r j).1, fun j => (r j).2, fun _ => rfl, fun j hj => ?_, fun j hj => ?_, fun j hj => (hr j hj).2.2⟩
      · rw [← add_plain]; exact (hr j hj).1
      · rw [Nat.add_assoc, ← add_plain]; exact (hr j hj).2.1
    · exact ⟨b, off, fun j => (r j).1, fun j => (r j).2, fun h => absurd h h0, fun j hj => absurd hj (by omega), fun j hj => absurd hj (by omega), fun j hj => absurd hj (by omega)⟩

/-- The contacts named, opened. -/
theorem open_named {H : Type} {enc : TypeId × Value → H} {W : World} {fuel : Nat} {a0 : Option Addr} {len cap : Nat} {x : DataW H × List MemPlace}
    (h : DataW.trod enc Ybaf.prog W 0 (fun _ => true) true fuel 23 [.slice a0 len cap] = some x) (hsz : ∀ n ∈ x.1.weights Ybaf.prog 23, n ≤ reachBytes) :
    len ≤ reachBytes ∧ (a0 = none → len = 0) ∧ ∃ (b off : Nat) (T : Nat → ByteArray) (Y : Nat → Int), (0 < len → a0 = some ⟨b, off, none⟩) ∧
      (∀ j, j < len → W.cell? ⟨b, off + j * 2, none⟩ = some (.string (T j))) ∧ (∀ j, j < len → W.cell? ⟨b, off + j * 2 + 1, none⟩ = some (.int .u8 (Y j))) ∧ (∀ j, j < len → 0 ≤ Y j ∧ Y j ≤ 255) := by
  rcases open_slice_pairs Ybaf.underlying23 Ybaf.underlying66 cells66 rfl rfl cells9 cells5 h with ⟨hcs, _⟩ | ⟨a, len', cap', mm, n, V0, V1, D0, D1, P0, P1, hcs, _, hl, hm, hmm, hx, hcell⟩
  · simp at hcs
    obtain ⟨rfl, rfl, rfl⟩ := hcs
    exact ⟨by decide, fun _ => rfl, 0, 0, fun _ => default, fun _ => 0, fun h => absurd h (by omega), fun j hj => absurd hj (by omega), fun j hj => absurd hj (by omega), fun j hj => absurd hj (by omega)⟩
  · simp at hcs
    obtain ⟨rfl, rfl, rfl⟩ := hcs
    have hlm : len ≤ mm := by rw [hmm]; split <;> omega
    have hb := hsz ((len + (mm - len)) * 24) (by rw [hx]; simp [DataW.weights, Ybaf.underlying23, bytes66])
    refine ⟨by omega, (fun h => by cases h), ?_⟩
    have each : ∀ j, j < len → ∃ r : ByteArray × Int, W.cell? (a.add (j * 2)) = some (.string r.1) ∧ W.cell? (a.add (j * 2 + 1)) = some (.int .u8 r.2) ∧ 0 ≤ r.2 ∧ r.2 ≤ 255 := by
      intro j hj
      obtain ⟨c0, c1, t0, t1⟩ := hcell j (by omega)
      obtain ⟨s, e0, _, _⟩ := DataW.trod_string Ybaf.underlying9 t0
      obtain ⟨z, e1, _, hz⟩ := DataW.trod_int Ybaf.underlying5 t1
      simp at e0 e1
      have hzb := bounds_u8 hz
      exact ⟨(s, z), by rw [c0, e0], by rw [c1, e1], hzb.1, hzb.2⟩
    obtain ⟨r, hr⟩ := choose_lt each
    obtain ⟨b, off, spot⟩ := a
    by_cases h0 : 0 < len
    · have hspot : spot = none := by have := hr 0 h0; simpa [Addr.add] using World.cell?_spot this.1
      subst hspot
      refine ⟨b, off, fun j => (r j).1, fun j => (r j).2, fun _ => rfl, fun j hj => ?_, fun j hj => ?_, fun j hj => (hr j hj).2.2⟩
      · rw [← add_plain]; exact (hr j hj).1
      · rw [Nat.add_assoc, ← add_plain]; exact (hr j hj).2.1
    · exact ⟨b, off, fun j => (r j).1, fun j => (r j).2, fun h => absurd h h0, fun j hj => absurd hj (by omega), fun j hj => absurd hj (by omega), fun j hj => absurd hj (by omega)⟩

set_option maxRecDepth 100000 in
theorem lifted (os : Os) (started : os.Started) (H : Type) (enc : TypeId × Value → H) :
    ReturnsInTold none {} Ybaf.checked os 3 .any Input.okWide ((OpenSpec.ofChange Rows.lawS7280BWholeSpec).preRow enc Ybaf.prog Ybaf.f3 Rows.lawS7280BWholeRow.domain false Rows.lawS7280BWholeRow.laid)
      (fun F => ((OpenSpec.ofChange Rows.lawS7280BWholeSpec).at F).post enc Ybaf.prog Ybaf.f3 false true false false) (aloneAtReturn Ybaf.prog) nothingAlways := by
  refine returnsInTold_of_row (C := Ybaf.checked) (s := OpenSpec.ofChange Rows.lawS7280BWholeSpec) (by kernel_rfl) own started (by kernel_rfl) Ybaf.func3
    (OpenSpec.witness_stopped_at (enc := enc) (C := Ybaf.checked) false (laidWorld Ybaf.prog os) #[.string ByteArray.empty, .int .u8 0, .slice none 0 0, .slice none 0 0] rfl (by kernel_rfl) (by kernel_rfl) (by kernel_rfl)
      (OpenSpec.preRow_of_B rfl 8 (by kernel_rfl) (by kernel_rfl) (laid_met os _))) ?_
  intro F W base args ds gs before _ hF hval0 hW _ _ hsz0 hL _
  have hval : ∀ (j : Nat) t v, Ybaf.f3.params[j]? = some t → args[j]? = some v → Value.okWide Ybaf.prog W .any base t v := hval0
  have hsz : (DataW.weightsEach Ybaf.prog (Ybaf.f3.params.toList ++ Rows.lawS7280BWholeSpec.plain.varTypes Ybaf.prog) (ds ++ gs)).all (· ≤ reachBytes) = true := hsz0
  have hW' := hW
  obtain ⟨p, q, hA0, hV0, rfl, hfz, hnd⟩ := hW
  have hA : DataW.TrodAll enc Ybaf.prog W 0 (fun _ => true) true Ybaf.f3.params.toList args.toList ds p := hA0
  have hV : DataW.TrodVars enc Ybaf.prog W (fun _ => true) [nF, nS] gs q := hV0
  rw [Ybaf.params3] at hA hval hsz
  obtain ⟨v0, vs0, d0, ds0, p0, q0, hargs, rfl, rfl, h0, r0⟩ := trodAll_cons hA
  obtain ⟨v1, vs1, d1, ds1, p1, q1, rfl, rfl, rfl, h1, r1⟩ := trodAll_cons r0
  obtain ⟨v2, vs2, d2, ds2, p2, q2, rfl, rfl, rfl, h2, r2⟩ := trodAll_cons r1
  obtain ⟨v3, vs3, d3, ds3, p3, q3, rfl, rfl, rfl, h3, r3⟩ := trodAll_cons r2
  obtain ⟨rfl, rfl, rfl⟩ := trodAll_nil r3
  obtain rfl : args = #[v0, v1, v2, v3] := by cases args; simp_all
  obtain ⟨aF, aS, tF, tS, cF, cS, uF, uS, hvF, hvS, hcF, htF, hzF, hcS, htS, hzS, hne, hbF, hbS⟩ := laid_sentinels2 hL gF gFType gS gSType Ybaf.underlying71 (fun u h => row111 u (h.trans (by kernel_rfl))) Ybaf.underlying111 Ybaf.underlying113 rfl rfl Ybaf.underlying9 cells113 cells9
  have vr : ∀ {X : World}, X.var? Ybaf.prog nF = some #[.iface 111 (.pointer (some aF))] → X.var? Ybaf.prog nS = some #[.iface 111 (.pointer (some aS))] → ∀ sp : Nat → Bool,
      DataW.TrodVars enc Ybaf.prog X sp [nF, nS] [tok enc (.iface 111 (.pointer (some aF))), tok enc (.iface 111 (.pointer (some aS)))] [.cell 0 0, .cell 1 0] :=
    fun x0 x1 sp => vars_read2 enc gF gFType Ybaf.underlying71 x0 trivial gS gSType Ybaf.underlying71 x1 trivial sp
  have sz0 : ∀ n ∈ d0.weights Ybaf.prog 9, n ≤ reachBytes := by
    intro n hn
    have := List.all_eq_true.1 hsz n (DataW.weights_mem_each (j := 0) (t := 9) (d := d0) rfl rfl n hn)
    simpa using this
  have sz2 : ∀ n ∈ d2.weights Ybaf.prog 22, n ≤ reachBytes := by
    intro n hn
    have := List.all_eq_true.1 hsz n (DataW.weights_mem_each (j := 2) (t := 22) (d := d2) rfl rfl n hn)
    simpa using this
  have sz3 : ∀ n ∈ d3.weights Ybaf.prog 23, n ≤ reachBytes := by
    intro n hn
    have := List.all_eq_true.1 hsz n (DataW.weights_mem_each (j := 3) (t := 23) (d := d3) rfl rfl n hn)
    simpa using this
  obtain ⟨rfl, rfl⟩ := hV.unique (vr hvF hvS _)
  have hgF : W.cell? ⟨0, 0, none⟩ = some (.iface 111 (.pointer (some aF))) := by simpa using World.var?_cell gF hvF 0
  have hgS : W.cell? ⟨1, 0, none⟩ = some (.iface 111 (.pointer (some aS))) := by simpa using World.var?_cell gS hvS 0
  obtain ⟨a1, rfl, rfl, rfl, w1⟩ := open_string Ybaf.underlying9 (hval 0 9 v0 rfl rfl) h0
  obtain ⟨a2, rfl, rfl, rfl, w2⟩ := open_int Ybaf.underlying5 (hval 1 5 v1 rfl rfl) h1
  have hp := bounds_u8 w2
  have hreg : a1.size ≤ 140737488351232 := by
    have := sz0 a1.data.toList.length (by simp [DataW.weights])
    simpa [reachBytes] using this
  obtain ⟨s0, len0, cap0, rfl⟩ := okWide_slice Ybaf.underlying22 (hval 2 22 v2 rfl rfl)
  obtain ⟨s1, len1, cap1, rfl⟩ := okWide_slice Ybaf.underlying23 (hval 3 23 v3 rfl rfl)
  have k2 := h2
  have k3 := h3
  have lt2 : ∀ x ∈ p2, x.block < W.heap.size := by obtain ⟨m, hm⟩ := k2; exact DataW.trod_lt m _ _ _ hm
  have lt3 : ∀ x ∈ p3, x.block < W.heap.size := by obtain ⟨m, hm⟩ := k3; exact DataW.trod_lt m _ _ _ hm
  obtain ⟨fuel2, hf2⟩ := h2
  obtain ⟨fuel3, hf3⟩ := h3
  obtain ⟨hml, b, off, X, O, ha, c0, c1, hX⟩ := open_held (by simpa [Value.cells] using hf2) sz2
  obtain ⟨hmm, fn0, fb, fo, T, Y, hf, n0, n1, hY⟩ := open_named (by simpa [Value.cells] using hf3) sz3
  clear hA0 hV0 hval0
  simp only [reachBytes] at hml hmm
  have walk : Calls Ybaf.prog 3 #[.string a1, .int .u8 a2, .slice s0 len0 cap0, .slice s1 len1 cap1] W fun e w' => e = .returned (.bool true) ∧ Below W.heap.size W w' := by
    by_cases hlong : len0 + len1 ≤ 1048576
    · exact lawB_walk F.told aF aS tF tS cF cS uF uS a1 a2 s0 b off len0 cap0 X O s1 fb fo len1 cap1 T Y W hF ⟨hgF, hgS, hcF, hcS⟩ hne hbF hbS hreg hp.1 hp.2 hlong ha fn0 hf c0 c1 hX n0 n1 hY
    · exact walk_long a1 a2 s0 len0 cap0 s1 len1 cap1 W (by omega) (by omega)
  refine walk.mono fun e W' ⟨he, bel⟩ => ?_
  subst he
  have hgl : 1 < W.heap.size := World.block_lt_of_cell? W _ hgS
  refine ⟨_, rfl, _, _, _, [], [] ++ ([] ++ (p2 ++ (p3 ++ []))), [.cell 0 0, .cell 1 0], hW', ?_, ?_, ?_, bel.frame _, fun h => by cases h⟩
  · exact trodAll_mk1 (shut_bool Ybaf.underlying4 _)
  · exact trodAll_cons_mk (shut_string Ybaf.underlying9 w1) (trodAll_cons_mk (shut_int Ybaf.underlying5 w2) (trodAll_cons_mk (Below.trod laidOut (by kernel_rfl) (of_decide_eq_true (by kernel_rfl)) k2 bel lt2) (trodAll_cons_mk (Below.trod laidOut (by kernel_rfl) (of_decide_eq_true (by kernel_rfl)) k3 bel lt3) trodAll_mk0)))
  · exact vr (var?_below bel gF (by omega) hvF) (var?_below bel gS hgl hvS) _

theorem card : Rows.LawS7280BWholeToldSaid :=
  Claim7.holds_of_told_tied_any_at .later 3 Ybaf.f3 "fmt.errorf" [] [] _ _ _ _ _ (by kernel_rfl) rfl rfl rfl laidOut (by kernel_rfl) rfl ⟨rfl, rfl, rfl, rfl, rfl, rfl, rfl⟩ rfl rfl (by kernel_rfl) (by kernel_rfl) Ybaf.func3 (by kernel_rfl)
    (of_decide_eq_true (by kernel_rfl)) (by unfold Func.isWrapper; first | (rw [if_pos (by decide +kernel)]; kernel_rfl) | (rw [if_neg (by decide +kernel)]; exact ⟨rfl, rfl⟩)) stops.symm rfl stopKnobs.symm (by kernel_rfl)
    (by kernel_rfl) (by kernel_rfl) (by kernel_rfl) (by kernel_rfl) (by kernel_rfl) (by kernel_rfl) (by kernel_rfl) (by kernel_rfl) (by kernel_rfl) rfl (by kernel_rfl) rfl rfl
    rfl rfl
    rfl (by kernel_rfl) (by kernel_rfl) (by kernel_rfl) (by decide) (by kernel_rfl) lawS7280BWhole_row_tie
    (OpenClaim.moreEntering_of (by kernel_rfl) (by kernel_rfl) (by kernel_rfl) (by kernel_rfl) (by kernel_rfl) (by kernel_rfl) (by kernel_rfl) (by kernel_rfl) (by kernel_rfl) (by kernel_rfl))
    ⟨_, WideRow.started_initial, quiet _⟩
    (fun os started _ H enc _ => lifted os started H enc)

end Go.Proofs.YbulkettaFmt.lawB

namespace Go.Proofs.YbulkettaFmt
theorem lawB_proved : Rows.LawS7280BWholeToldSaid := lawB.card
end Go.Proofs.YbulkettaFmt
