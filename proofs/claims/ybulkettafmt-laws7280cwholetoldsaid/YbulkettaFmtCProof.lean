/-
  THE STATEMENT 'Rows.LawS7280CWholeToldSaid': the told and tied card out of the walk (YbulkettaFmtCWalk).
-/
import Derived.Test.YbulkettaFmtCWalk
import Derived.Test.YbulkettaFmtTie
import Derived.Test.YbulkettaFmtCards
import Derived.ProofKit
import Derived.OpenShut
import Derived.ShutString
import Derived.ChangeOld
import Derived.SizedLaws
import Derived.Deep.Strs
import Derived.Stop.JoinedAt
import Derived.Stop.JoinedTold
import Derived.Stop.Texts
import Derived.Stop.LaidErr
import Derived.SevenToldRow
import Derived.SevenTiedAt
namespace Go.Proofs.YbulkettaFmt.lawC
open Go.ChangeShapes Go.WideShapes Go.ChangeAt Go.RowKit Go.Deep Go.Kit
open Go.ChangeMaps (open_string shut_string)
open Go.Extern.Stop Go.Stop Go.Extern

theorem own : ownKnob Ybaf.prog.godebug = none := by kernel_rfl
theorem laidOut : laidOutB Ybaf.pinned.checked.prog = true := by kernel_rfl
theorem stops : Ybaf.pinned.checked.prog.stops = ["fmt.errorf"] := by kernel_rfl
theorem stopKnobs : Ybaf.pinned.checked.prog.stopKnobs = [] := by kernel_rfl
theorem quiet (os : Os) : Stop.quiet Ybaf.pinned.checked.prog os := by
  intro k hk
  rw [stopKnobs] at hk
  cases hk
theorem cells77 : Ybaf.prog.cellsOf 77 = 3 := by kernel_rfl
theorem cells9 : Ybaf.prog.cellsOf 9 = 1 := by kernel_rfl
theorem cells113 : Ybaf.prog.cellsOf 113 = 1 := by kernel_rfl
theorem gP : Ybaf.prog.globalNamed (Rows.lawS7280CWholeSpec.vars.headD "") = some 2 := by kernel_rfl
theorem gPType : (Ybaf.prog.globals[2]?).map (·.type) = some 71 := by kernel_rfl
/-- The one row of that name. -/
theorem row111 (u : TypeId) (h : Ybaf.prog.typeName? 3 u = Ybaf.prog.typeName? 3 111) : u = 111 :=
  typeName_ptr_named (P := Ybaf.prog) (nm := "errors.errorString") (by kernel_rfl) (by kernel_rfl) (by decide) u (h.trans (by kernel_rfl))

/-! ### One start that fits: the sentinel as its initialiser lays it -/
def textOfP : ByteArray := ⟨#[112, 114, 111, 104, 105, 98, 105, 116, 101, 100, 32, 98, 121, 32, 116, 104, 101, 32, 100, 111, 109, 97, 105, 110, 39, 115, 32, 115, 116, 97, 116, 117, 115]⟩
/-- The settled world with one block more, an errors.errorString; variable number 2 holds a pointer to it. -/
def laidWorld (P : Program) (os : Os) : World :=
  { World.holding P os ⟨#[.cells #[.string textOfP] 113], #[], []⟩ with heap := (World.holding P os ⟨#[.cells #[.string textOfP] 113], #[], []⟩).heap.modify 2 fun
      | .cells _ t frozen => .cells #[.iface 111 (.pointer (some ⟨(World.holding P default ⟨#[], #[], []⟩).heap.size, 0, none⟩))] t frozen
      | o => o }
theorem laid_met (os : Os) (args : Array Value) : laidMet Ybaf.prog Rows.lawS7280CWholeRow.laid ((laidWorld Ybaf.prog os).forCall (fun _ _ => 0) ⟨#[], args, []⟩).memory :=
  laidMet_of_run' 8 (by kernel_rfl) (by kernel_rfl)

set_option maxHeartbeats 400000 in
theorem walk_long (a0 : Option Addr) (len cap : Nat) (value name : ByteArray) (pick : Int) (w : World) (h : 1048576 < len) (hm : len ≤ 9223372036854775807) :
    Calls Ybaf.prog 4 #[.slice a0 len cap, .string value, .int .u8 pick, .string name] w fun e w' => e = .returned (.bool true) ∧ Below w.heap.size w w' := by
  have hl : ((1048576 : Int) < (len : Int)) := by omega
  have hm' : (len : Int) ≤ 9223372036854775807 := by omega
  go_enter Ybaf.func4, Ybaf.ntmps4
  go_wp2
  go_ret
  exact ⟨rfl, Below.refl _ _⟩

theorem len3 {α : Type} {l : List α} (h : l.length = 3) : ∃ a b c, l = [a, b, c] := by
  match l, h with
  | [a, b, c], _ => exact ⟨a, b, c, rfl⟩

/-- The statuses that came in, opened. -/
theorem open_statuses {H : Type} {enc : TypeId × Value → H} {W : World} {fuel : Nat} {a0 : Option Addr} {len cap : Nat} {x : DataW H × List MemPlace}
    (h : DataW.trod enc Ybaf.prog W 0 (fun _ => true) true fuel 75 [.slice a0 len cap] = some x) :
    len ≤ maxLen ∧ (a0 = none → len = 0) ∧ ∃ (b off : Nat) (V R L : Nat → ByteArray), (0 < len → a0 = some ⟨b, off, none⟩) ∧
      (∀ j, j < len → W.cell? ⟨b, off + j * 3, none⟩ = some (.string (V j))) ∧ (∀ j, j < len → W.cell? ⟨b, off + j * 3 + 1, none⟩ = some (.string (R j))) ∧ (∀ j, j < len → W.cell? ⟨b, off + j * 3 + 2, none⟩ = some (.string (L j))) := by
  rcases open_slice Ybaf.underlying75 h with ⟨hcs, _⟩ | ⟨a, len', cap', mm, n, D, Pl, hcs, _, hl, hm, hmm, _, hcell⟩
  · simp at hcs
    obtain ⟨rfl, rfl, rfl⟩ := hcs
    exact ⟨by decide, fun _ => rfl, 0, 0, fun _ => default, fun _ => default, fun _ => default, fun h => absurd h (by omega), fun j hj => absurd hj (by omega), fun j hj => absurd hj (by omega), fun j hj => absurd hj (by omega)⟩
  · simp at hcs
    obtain ⟨rfl, rfl, rfl⟩ := hcs
    refine ⟨by omega, (fun h => by cases h), ?_⟩
    have hlm : len ≤ mm := by rw [hmm]; split <;> omega
    have each : ∀ j, j < len → ∃ r : ByteArray × ByteArray × ByteArray, W.cell? (a.add (j * 3)) = some (.string r.1) ∧ W.cell? (a.add (j * 3 + 1)) = some (.string r.2.1) ∧ W.cell? (a.add (j * 3 + 2)) = some (.string r.2.2) := by
      intro j hj
      obtain ⟨cs', h1, h2⟩ := hcell j (by omega)
      rw [cells77] at h1
      obtain ⟨_, hlen, hc⟩ := World.cells?_some h1
      obtain ⟨xs, k, hk, hxy, _, hxl, hf⟩ := DataW.trod_struct Ybaf.underlying77 h2
      obtain ⟨v0, v1, v2, rfl⟩ := len3 hlen
      have g0 := hf 0 _ rfl
      have g1 := hf 1 _ rfl
      have g2 := hf 2 _ rfl
      obtain ⟨y0, y1, y2, rfl⟩ := len3 (show xs.length = 3 from hxl)
      simp [cells9] at g0 g1 g2
      obtain ⟨s0, e0, _, _⟩ := DataW.trod_string Ybaf.underlying9 g0
      obtain ⟨s1, e1, _, _⟩ := DataW.trod_string Ybaf.underlying9 g1
      obtain ⟨s2, e2, _, _⟩ := DataW.trod_string Ybaf.underlying9 g2
      simp at e0 e1 e2
      have c0 := hc 0 (by omega)
      have c1 := hc 1 (by omega)
      have c2 := hc 2 (by omega)
      rw [add_add] at c0 c1 c2
      exact ⟨(s0, s1, s2), by simpa [e0] using c0, by simpa [e1] using c1, by simpa [e2] using c2⟩
    obtain ⟨r, hr⟩ := choose_lt each
    obtain ⟨b, off, spot⟩ := a
    by_cases h0 : 0 < len
    · have hspot : spot = none := by have := hr 0 h0; simpa [Addr.add] using World.cell?_spot this.1
      subst hspot
      refine ⟨b, off, fun j => (r j).1, fun j => (r j).2.1, fun j => (r j).2.2, fun _ => rfl, fun j hj => ?_, fun j hj => ?_, fun j hj => ?_⟩
      · rw [← add_plain]; exact (hr j hj).1
      · rw [Nat.add_assoc, ← add_plain]; exact (hr j hj).2.1
      · rw [Nat.add_assoc, ← add_plain]; exact (hr j hj).2.2
    · exact ⟨b, off, fun j => (r j).1, fun j => (r j).2.1, fun j => (r j).2.2, fun h => absurd h h0, fun j hj => absurd hj (by omega), fun j hj => absurd hj (by omega), fun j hj => absurd hj (by omega)⟩

set_option maxRecDepth 100000 in
theorem lifted (os : Os) (started : os.Started) (H : Type) (enc : TypeId × Value → H) :
    ReturnsInTold none {} Ybaf.checked os 4 .any Input.okWide ((OpenSpec.ofChange Rows.lawS7280CWholeSpec).preRow enc Ybaf.prog Ybaf.f4 Rows.lawS7280CWholeRow.domain false Rows.lawS7280CWholeRow.laid)
      (fun F => ((OpenSpec.ofChange Rows.lawS7280CWholeSpec).at F).post enc Ybaf.prog Ybaf.f4 false true false false) (aloneAtReturn Ybaf.prog) nothingAlways := by
  refine returnsInTold_of_row (C := Ybaf.checked) (s := OpenSpec.ofChange Rows.lawS7280CWholeSpec) (by kernel_rfl) own started (by kernel_rfl) Ybaf.func4
    (OpenSpec.witness_stopped_at (enc := enc) (C := Ybaf.checked) false (laidWorld Ybaf.prog os) #[.slice none 0 0, .string ByteArray.empty, .int .u8 0, .string ByteArray.empty] rfl (by kernel_rfl) (by kernel_rfl) (by kernel_rfl)
      (OpenSpec.preRow_of_B rfl 8 (by kernel_rfl) (by kernel_rfl) (laid_met os _))) ?_
  intro F W base args ds gs before _ hF hval0 hW _ _ _ hL _
  have hval : ∀ (j : Nat) t v, Ybaf.f4.params[j]? = some t → args[j]? = some v → Value.okWide Ybaf.prog W .any base t v := hval0
  have hW' := hW
  obtain ⟨p, q, hA0, hV0, rfl, hfz, hnd⟩ := hW
  have hA : DataW.TrodAll enc Ybaf.prog W 0 (fun _ => true) true Ybaf.f4.params.toList args.toList ds p := hA0
  have hV : DataW.TrodVars enc Ybaf.prog W (fun _ => true) [Rows.lawS7280CWholeSpec.vars.headD ""] gs q := hV0
  rw [Ybaf.params4] at hA hval
  obtain ⟨v0, vs0, d0, ds0, p0, q0, hargs, rfl, rfl, h0, r0⟩ := trodAll_cons hA
  obtain ⟨v1, vs1, d1, ds1, p1, q1, rfl, rfl, rfl, h1, r1⟩ := trodAll_cons r0
  obtain ⟨v2, vs2, d2, ds2, p2, q2, rfl, rfl, rfl, h2, r2⟩ := trodAll_cons r1
  obtain ⟨v3, vs3, d3, ds3, p3, q3, rfl, rfl, rfl, h3, r3⟩ := trodAll_cons r2
  obtain ⟨rfl, rfl, rfl⟩ := trodAll_nil r3
  obtain rfl : args = #[v0, v1, v2, v3] := by cases args; simp_all
  obtain ⟨a, t, hv, hc, ht, hz⟩ := laid_sentinel hL gP gPType Ybaf.underlying71 (fun u h => row111 u (h.trans (by kernel_rfl))) Ybaf.underlying111 Ybaf.underlying113 rfl rfl Ybaf.underlying9 cells113 cells9
  obtain ⟨rfl, rfl⟩ := hV.unique (vars_read1 enc gP gPType Ybaf.underlying71 hv trivial _)
  have hg : W.cell? ⟨2, 0, none⟩ = some (.iface 111 (.pointer (some a))) := by simpa using World.var?_cell gP hv 0
  obtain ⟨a0, len0, cap0, rfl⟩ := okWide_slice Ybaf.underlying75 (hval 0 75 v0 rfl rfl)
  have k0 := h0
  have lt0 : ∀ x ∈ p0, x.block < W.heap.size := by obtain ⟨m, hm⟩ := k0; exact DataW.trod_lt m _ _ _ hm
  obtain ⟨fuel, hf⟩ := h0
  obtain ⟨hml, hn0, b, off, V, R, L, ha, c0, c1, c2⟩ := open_statuses (by simpa [Value.cells] using hf)
  obtain ⟨a1, rfl, rfl, rfl, w1⟩ := open_string Ybaf.underlying9 (hval 1 9 v1 rfl rfl) h1
  obtain ⟨a2, rfl, rfl, rfl, w2⟩ := open_int Ybaf.underlying5 (hval 2 5 v2 rfl rfl) h2
  obtain ⟨a3, rfl, rfl, rfl, w3⟩ := open_string Ybaf.underlying9 (hval 3 9 v3 rfl rfl) h3
  clear hA0 hV0 hval0
  have hp := bounds_u8 w2
  have walk : Calls Ybaf.prog 4 #[.slice a0 len0 cap0, .string a1, .int .u8 a2, .string a3] W fun e w' => e = .returned (.bool true) ∧ Below W.heap.size W w' := by
    by_cases hlong : len0 ≤ 1048576
    · exact lawC_walk F.told a t a0 b off len0 cap0 a1 a3 a2 W V R L hF hg hc hp.1 hp.2 hn0 ha hlong c0 c1 c2
    · exact walk_long a0 len0 cap0 a1 a3 a2 W (by omega) hml
  refine walk.mono fun e W' ⟨he, bel⟩ => ?_
  subst he
  have hgl : 2 < W.heap.size := World.block_lt_of_cell? W _ hg
  refine ⟨_, rfl, _, _, _, [], p0 ++ ([] ++ ([] ++ ([] ++ []))), [.cell 2 0], hW', ?_, ?_, ?_, bel.frame _, fun h => by cases h⟩
  · exact trodAll_mk1 (shut_bool Ybaf.underlying4 _)
  · exact trodAll_cons_mk (Below.trod laidOut (by kernel_rfl) (of_decide_eq_true (by kernel_rfl)) k0 bel lt0) (trodAll_cons_mk (shut_string Ybaf.underlying9 w1) (trodAll_cons_mk (shut_int Ybaf.underlying5 w2) (trodAll_cons_mk (shut_string Ybaf.underlying9 w3) trodAll_mk0)))
  · exact vars_read1 enc gP gPType Ybaf.underlying71 (var?_below bel gP hgl hv) trivial _

theorem card : Rows.LawS7280CWholeToldSaid :=
  Claim7.holds_of_told_tied_any_at .later 4 Ybaf.f4 "fmt.errorf" [] [] _ _ _ _ _ (by kernel_rfl) rfl rfl rfl laidOut (by kernel_rfl) rfl ⟨rfl, rfl, rfl, rfl, rfl, rfl, rfl⟩ rfl rfl (by kernel_rfl) (by kernel_rfl) Ybaf.func4 (by kernel_rfl)
    (of_decide_eq_true (by kernel_rfl)) (by unfold Func.isWrapper; first | (rw [if_pos (by decide +kernel)]; kernel_rfl) | (rw [if_neg (by decide +kernel)]; exact ⟨rfl, rfl⟩)) stops.symm rfl stopKnobs.symm (by kernel_rfl)
    (by kernel_rfl) (by kernel_rfl) (by kernel_rfl) (by kernel_rfl) (by kernel_rfl) (by kernel_rfl) (by kernel_rfl) (by kernel_rfl) (by kernel_rfl) rfl (by kernel_rfl) rfl rfl
    rfl rfl
    rfl (by kernel_rfl) (by kernel_rfl) (by kernel_rfl) (by decide) (by kernel_rfl) lawS7280CWhole_row_tie
    (OpenClaim.moreEntering_of (by kernel_rfl) (by kernel_rfl) (by kernel_rfl) (by kernel_rfl) (by kernel_rfl) (by kernel_rfl) (by kernel_rfl) (by kernel_rfl) (by kernel_rfl) (by kernel_rfl))
    ⟨_, WideRow.started_initial, quiet _⟩
    (fun os started _ H enc _ => lifted os started H enc)

end Go.Proofs.YbulkettaFmt.lawC

namespace Go.Proofs.YbulkettaFmt
theorem lawC_proved : Rows.LawS7280CWholeToldSaid := lawC.card
end Go.Proofs.YbulkettaFmt
