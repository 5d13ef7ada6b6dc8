/-
  LawS7203CWhole: ids as keys; the contracts of zzs7203cactor (8), zzs7203cplace (9), present (13), the closure (14).
-/
import Derived.Test.YbulkesdoRows
import Derived.Test.YbulkesdoCRange
import Derived.DeepKeys4
import Derived.Maps.Keyed
import Derived.Laws.EntriesVeiled
import Derived.WalkKit
import Derived.WalkSpells
import Derived.WalkSmall
import Derived.WalkLawsBesides
import Derived.LaidEql
import Derived.Deep.RegionHeld3
import Derived.Deep.DrawnRows
import Derived.Deep.QuietTactic
import Derived.BigQuiet
import Derived.Deep.DeepCutAuto
import Derived.Deep.CutBlock
namespace Go.Proofs.Ybulkesdo.C
open Go.RowKit Go.Maps Go.WideMaps
attribute [local go_sem ↓] Go.wp_at_zero Go.wp_at_succ

theorem hid {P : Prop} (h : P) : Hid P := h
theorem cell_later {w w' : World} {a : Addr} {v : Value} (hb : Below w.heap.size w w') (h : w.cell? a = some v) : w'.cell? a = some v :=
  (hb.cell (World.block_lt_of_cell? w _ h)).trans h
theorem cell_row {w : World} {g j : Nat} {co : Array Value} {e : TypeId} (h1 : w.heap[g]? = some (.cells co e (0, 0))) : w.cell? ⟨g, j, none⟩ = co[j]? := by
  simp [World.cell?, h1]
theorem free_row {w : World} {g j : Nat} {co : Array Value} {e : TypeId} (h1 : w.heap[g]? = some (.cells co e (0, 0))) : w.frozen? ⟨g, j, none⟩ = false := by
  simp [World.frozen?, h1]
theorem heap_put (w : World) {g j : Nat} {co : Array Value} {e : TypeId} (v : Value) (h : w.heap[g]? = some (.cells co e (0, 0))) : (w.setCell ⟨g, j, none⟩ v).heap[g]? = some (.cells (co.setIfInBounds j v) e (0, 0)) := by
  simp [World.setCell, Array.getElem?_modify, h]
theorem heap_far (w : World) {g j b : Nat} (v : Value) (h : b ≠ g) : (w.setCell ⟨g, j, none⟩ v).heap[b]? = w.heap[b]? := Below.heap_setCell w ⟨g, j, none⟩ v b h
theorem undrew {w w1 : World} (h : Below w.drew.heap.size w.drew w1) : Below w.heap.size w w1 := ⟨h.os, h.tape, h.output, h.size, h.block⟩

/-! ### Ids -/
abbrev idV (c : Int) (a : ByteArray) : Value := .agg #[.int .u64 c, .string a]
theorem laidOut : laidOutB Yba.prog = true := by kernel_rfl
theorem wide60 : (match Yba.prog.underlying 60 with | some (.array _ _) | some (.struct _) => true | _ => false) = true := by kernel_rfl
theorem row60 : (60 : TypeId) < Yba.prog.types.size := of_decide_eq_true (by kernel_rfl)
set_option maxRecDepth 100000 in
theorem keyed : Keyed Yba.prog 60 := Keyed.of_law (deep_law_laid laidOut (m := 2) (by omega) row60 (by kernel_rfl) wide60)
theorem cells60 : Yba.prog.cellsOf 60 = 2 := by kernel_rfl
theorem cells37 : Yba.prog.cellsOf 37 = 1 := by kernel_rfl
theorem cells9 : Yba.prog.cellsOf 9 = 1 := by kernel_rfl
theorem keyType60 : Yba.prog.keyType 60 = true := by kernel_rfl
theorem succ_of_lt {a n : Nat} (h : a < n) : ∃ m, n = m + 1 := ⟨n - 1, by omega⟩
theorem types_succ : ∃ m, Yba.prog.types.size = m + 1 := succ_of_lt row60
theorem key_pair {P : Program} {k : TypeId} {f1 f2 : Field} (hu : P.underlying k = some (.struct #[f1, f2])) (h1 : P.underlying f1.type = some (.int .u64)) (h2 : P.underlying f2.type = some .string) (o1 : f1.offset = 0) (o2 : f2.offset = 1) (n1 : f1.name ≠ "_") (n2 : f2.name ≠ "_")
    (hk : P.keyType k = true) (ck : P.cellsOf k = 2) (c1 : P.cellsOf f1.type = 1) (c2 : P.cellsOf f2.type = 1) (hm : ∃ m, P.types.size = m + 1) {c : Int} {a : ByteArray} (hw : (Lit.int .u64 c).wf = true) (ha : a.size ≤ Go.maxLen) : ∃ l, keyOf P k (idV c a) = some l := by
  obtain ⟨m, hm⟩ := hm
  have hf : (idV c a).formed P k = true := by simp [Value.formed, hu, ck]
  unfold keyOf
  simp only [hu, hk, hf, Bool.and_self, if_true]
  simp [Program.keyLits, hu, ck, c1, c2, hm, h1, h2, o1, o2, n1, n2, Value.cells, hw, ha]
theorem key_id {c : Int} {a : ByteArray} (h0 : 0 ≤ c) (h1 : c < 18446744073709551616) (ha : a.size ≤ Go.maxLen) : ∃ l, keyOf Yba.prog 60 (idV c a) = some l :=
  key_pair Yba.underlying60 Yba.underlying37 Yba.underlying9 rfl rfl (by decide) (by decide) keyType60 cells60 cells37 cells9 types_succ (by simp [Lit.wf, IntKind.min, IntKind.max, IntKind.signed, IntKind.bits]; omega) ha

theorem eq60 (c d : Int) (a b : ByteArray) (w : World) : (binOp .eql 60 (idV c a) (idV d b)).run Yba.prog w = .ok (.bool ((c == d) && (a.toList == b.toList))) w := by
  have h1 : ∀ q : Nat, (Op.equalIn (q + 2) 60 (idV c a) (idV d b)).run Yba.prog w = .ok ((c == d) && (a.toList == b.toList)) w := fun q => by
    rw [run_equalIn_agg _ (q + 1) 60 _ _ (by kernel_rfl) (by kernel_rfl)]
    cases hcd : (c == d) <;> cases hab : (a.toList == b.toList) <;>
      simp [go_sem, Program.fieldsOf, Yba.underlying60, Op.eqFields, run_equalIn_string (P := Yba.prog) _ q 9 _ _ Yba.underlying9, run_equalIn_int (P := Yba.prog) _ q 37 .u64 .u64 _ _ Yba.underlying37, hcd, hab]
  simp [run_eql_struct, h1 9998, Result.andThen]

/-! ### Actors -/
def actorS (a : Int) : ByteArray := if a % 2 = 0 then ⟨#[97]⟩ else ⟨#[98]⟩
theorem actor_size (a : Int) : (actorS a).size ≤ Go.maxLen := by unfold actorS; split <;> decide
set_option maxHeartbeats 400000 in
theorem actor_any (a : Int) (w : World) (h0 : 0 ≤ a) (h1 : a ≤ 255) : Calls Yba.prog 8 #[.int .u8 a] w fun e w' => e = .returned (.string (actorS a)) ∧ w' = w := by
  have hc : a % 2 = 0 ∨ a % 2 = 1 := by omega
  rcases hc with h | h
  · have hs : actorS a = ⟨#[97]⟩ := by simp [actorS, h]
    rw [hs]
    clear hs
    go_enter Yba.func8, Yba.ntmps8
    go_wp2
    go_ret
    trivial
  · have hs : actorS a = ⟨#[98]⟩ := by simp [actorS, h]
    rw [hs]
    clear hs
    go_enter Yba.func8, Yba.ntmps8
    go_wp2
    go_ret
    trivial

end Go.Proofs.Ybulkesdo.C
