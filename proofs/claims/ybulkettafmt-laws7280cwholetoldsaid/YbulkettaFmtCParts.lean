/-
  LawS7280CWhole: the statuses that the law builds, said of worlds.
-/
import Derived.Test.YbulkettaFmtCLeaf
namespace Go.Proofs.YbulkettaFmt
open Go.RowKit Go.Extern.Stop Go.Stop Go.Extern

theorem Ybaf.info80 : (Ybaf.prog.info? 80).map (fun i => (i.zero, i.size, i.bytes)) = some (some (.agg #[.string ByteArray.empty, .string ByteArray.empty, .string ByteArray.empty]), 3, 48) := by kernel_rfl

theorem make_statuses (len : Nat) (hlen : len ≤ 1048576) : ∃ Z : Array Value, Z.size = len * 3 ∧ ∀ w : World, (Instr.makeSlice 78 (.int .i64 len) (.int .i64 len)).run Ybaf.prog w = .ok (.slice (some ⟨w.heap.size, 0, none⟩) len len) (w.alloc (.cells Z 80)) := by
  obtain ⟨i0, hi, hz0, hz1, hz2⟩ := info_parts Ybaf.info80
  refine ⟨madeCells (Value.agg #[.string ByteArray.empty, .string ByteArray.empty, .string ByteArray.empty]).cells (len * 3), size_madeCells _ _, fun w => ?_⟩
  have := run_make (P := Ybaf.prog) w 78 80 i0 _ Ybaf.underlying78 hi hz0 .i64 .i64 len len (by omega) (Int.le_refl _) (by rw [hz2]; omega) (by omega)
  rw [this, hz1]
  simp

/-- The block g holds 'len' statuses; the first k of them are filled. -/
def St (len k : Nat) (V R L : Nat → ByteArray) (g : Nat) (w : World) : Prop :=
  ∃ co, w.heap[g]? = some (.cells co 80 (0, 0)) ∧ co.size = len * 3 ∧
    ∀ j, j < k → co[j * 3]? = some (.string (V j)) ∧ co[j * 3 + 1]? = some (.string (R j)) ∧ co[j * 3 + 2]? = some (.string (L j))

theorem cell_row {w : World} {g j : Nat} {co : Array Value} {e : TypeId} (h1 : w.heap[g]? = some (.cells co e (0, 0))) : w.cell? ⟨g, j, none⟩ = co[j]? := by
  simp [World.cell?, h1]
theorem free_row {w : World} {g j : Nat} {co : Array Value} {e : TypeId} (h1 : w.heap[g]? = some (.cells co e (0, 0))) : w.frozen? ⟨g, j, none⟩ = false := by
  simp [World.frozen?, h1]
theorem heap_put (w : World) {g j : Nat} {co : Array Value} {e : TypeId} (v : Value) (h : w.heap[g]? = some (.cells co e (0, 0))) : (w.setCell ⟨g, j, none⟩ v).heap[g]? = some (.cells (co.setIfInBounds j v) e (0, 0)) := by
  simp [World.setCell, Array.getElem?_modify, h]
theorem far {w : World} {x a : Addr} (v : Value) (h : a.block ≠ x.block) : (w.setCell x v).cell? a = w.cell? a := World.cell?_of_block (Below.heap_setCell w x v a.block h)
theorem far3 {w : World} {g j0 j1 j2 : Nat} {v0 v1 v2 v : Value} {a : Addr} (h : a.block ≠ g) (hc : w.cell? a = some v) :
    (((w.setCell ⟨g, j0, none⟩ v0).setCell ⟨g, j1, none⟩ v1).setCell ⟨g, j2, none⟩ v2).drew.cell? a = some v :=
  ((far (w := (w.setCell ⟨g, j0, none⟩ v0).setCell ⟨g, j1, none⟩ v1) v2 h).trans ((far (w := w.setCell ⟨g, j0, none⟩ v0) v1 h).trans ((far v0 h).trans hc)))
theorem keep3 {w : World} {g b o0 o1 o2 j0 j1 j2 : Nat} {v0 v1 v2 x0 x1 x2 : Value} (h : b ≠ g) (h0 : w.cell? ⟨b, o0, none⟩ = some x0) (h1 : w.cell? ⟨b, o1, none⟩ = some x1) (h2 : w.cell? ⟨b, o2, none⟩ = some x2) :
    (fun w' : World => w'.cell? ⟨b, o0, none⟩ = some x0 ∧ w'.cell? ⟨b, o1, none⟩ = some x1 ∧ w'.cell? ⟨b, o2, none⟩ = some x2) (((w.setCell ⟨g, j0, none⟩ v0).setCell ⟨g, j1, none⟩ v1).setCell ⟨g, j2, none⟩ v2).drew :=
  ⟨far3 (a := ⟨b, o0, none⟩) h h0, far3 (a := ⟨b, o1, none⟩) h h1, far3 (a := ⟨b, o2, none⟩) h h2⟩
theorem below_drN {B : Nat} {a w : World} (h : Below B a w) (n : Nat) : Below B a (w.drewN n) := ⟨h.os, h.tape, h.output, h.size, h.block⟩

section
variable {len k g : Nat} {V R L : Nat → ByteArray} {w w' : World}

theorem St.lt (h : St len k V R L g w) : g < w.heap.size := by
  obtain ⟨co, h1, _⟩ := h
  exact (Array.getElem?_eq_some_iff.1 h1).1
theorem St.kept (h : St len k V R L g w) (hg : w'.heap[g]? = w.heap[g]?) : St len k V R L g w' := by
  obtain ⟨co, h1, h2⟩ := h
  exact ⟨co, hg.trans h1, h2⟩
theorem St.below (h : St len k V R L g w) (hb : Below w.heap.size w w') : St len k V R L g w' := h.kept (hb.block g h.lt)
theorem St.start (w : World) (Z : Array Value) (hZ : Z.size = len * 3) : St len 0 V R L w.heap.size (w.alloc (.cells Z 80)) :=
  ⟨Z, heap_alloc_new w _, hZ, fun j hj => absurd hj (by omega)⟩

theorem St.room (h : St len k V R L g w) {j : Nat} (hj : j < len) :
    (∃ v, w.cell? ⟨g, j * 3, none⟩ = some v) ∧ (∃ v, w.cell? ⟨g, j * 3 + 1, none⟩ = some v) ∧ (∃ v, w.cell? ⟨g, j * 3 + 2, none⟩ = some v) ∧ ∀ i, w.frozen? ⟨g, i, none⟩ = false := by
  obtain ⟨co, h1, h2, _⟩ := h
  refine ⟨⟨co[j * 3], ?_⟩, ⟨co[j * 3 + 1], ?_⟩, ⟨co[j * 3 + 2], ?_⟩, fun i => free_row h1⟩
  · rw [cell_row h1]; simp
  · rw [cell_row h1]; simp
  · rw [cell_row h1]; simp

theorem St.read (h : St len k V R L g w) {j : Nat} (hj : j < k) : w.cell? ⟨g, j * 3, none⟩ = some (.string (V j)) ∧ w.cell? ⟨g, j * 3 + 1, none⟩ = some (.string (R j)) ∧ w.cell? ⟨g, j * 3 + 2, none⟩ = some (.string (L j)) := by
  obtain ⟨co, h1, h2, h3⟩ := h
  rw [cell_row h1, cell_row h1, cell_row h1]
  exact h3 j hj

theorem St.step (h : St len k V R L g w) (hk : k < len) :
    St len (k + 1) V R L g (((w.setCell ⟨g, k * 3, none⟩ (.string (V k))).setCell ⟨g, k * 3 + 1, none⟩ (.string (R k))).setCell ⟨g, k * 3 + 2, none⟩ (.string (L k))) := by
  obtain ⟨co, h1, h2, h3⟩ := h
  refine ⟨_, heap_put _ _ (heap_put _ _ (heap_put w _ h1)), by simp [h2], fun j hj => ?_⟩
  by_cases hjk : j = k
  · subst hjk
    refine ⟨?_, ?_, ?_⟩
    · rw [Array.getElem?_setIfInBounds_ne (by omega), Array.getElem?_setIfInBounds_ne (by omega), Array.getElem?_setIfInBounds_self_of_lt (by omega)]
    · rw [Array.getElem?_setIfInBounds_ne (by omega), Array.getElem?_setIfInBounds_self_of_lt (by simp; omega)]
    · rw [Array.getElem?_setIfInBounds_self_of_lt (by simp; omega)]
  · obtain ⟨a, b, c⟩ := h3 j (by omega)
    refine ⟨?_, ?_, ?_⟩
    · rw [Array.getElem?_setIfInBounds_ne (by omega), Array.getElem?_setIfInBounds_ne (by omega), Array.getElem?_setIfInBounds_ne (by omega)]; exact a
    · rw [Array.getElem?_setIfInBounds_ne (by omega), Array.getElem?_setIfInBounds_ne (by omega), Array.getElem?_setIfInBounds_ne (by omega)]; exact b
    · rw [Array.getElem?_setIfInBounds_ne (by omega), Array.getElem?_setIfInBounds_ne (by omega), Array.getElem?_setIfInBounds_ne (by omega)]; exact c

/-- Every cell of a filled block is one cell: a string. -/
theorem St.ones (h : St len len V R L g w) : ∃ co : Array Value, w.heap[g]? = some (.cells co 80 (0, 0)) ∧ co.size = len * 3 ∧ (∀ v ∈ co.toList, v.oneCell' = true) ∧
    ∀ j, j < len → co[j * 3]? = some (.string (V j)) ∧ co[j * 3 + 1]? = some (.string (R j)) ∧ co[j * 3 + 2]? = some (.string (L j)) := by
  obtain ⟨co, h1, h2, h3⟩ := h
  refine ⟨co, h1, h2, fun v hv => ?_, h3⟩
  obtain ⟨i, hi⟩ := List.mem_iff_getElem?.1 hv
  have hi' : co[i]? = some v := by simpa using hi
  have hil : i < co.size := (Array.getElem?_eq_some_iff.1 hi').1
  obtain ⟨a, b, c⟩ := h3 (i / 3) (by omega)
  have hc : i = i / 3 * 3 ∨ i = i / 3 * 3 + 1 ∨ i = i / 3 * 3 + 2 := by omega
  rcases hc with e | e | e
  · rw [e, a] at hi'; cases hi'; rfl
  · rw [e, b] at hi'; cases hi'; rfl
  · rw [e, c] at hi'; cases hi'; rfl

end

/-- 'copy(keep, st)', whatever st is. -/
theorem copy_keep (len : Nat) (sa : Option Addr) (cc g K : Nat) (V R L : Nat → ByteArray) (Z : Array Value) (W : World) (hK : W.heap[K]? = some (.cells Z 80 (0, 0))) (hZ : Z.size = len * 3)
    (hs : 0 < len → sa = some ⟨g, 0, none⟩ ∧ St len len V R L g W) :
    ∃ wk : World, (∀ ty, (Builtin.copy_ #[78, 78] ty #[.slice (some ⟨K, 0, none⟩) len len, .slice sa len cc]).run Ybaf.prog W = .ok (goInt len) wk) ∧ (0 < len → St len len V R L K wk) ∧
      (∀ k, k ≠ K → wk.heap[k]? = W.heap[k]?) ∧ wk.heap.size = W.heap.size ∧ wk.os = W.os ∧ wk.tape = W.tape ∧ wk.output = W.output := by
  obtain ⟨i0, hi, hz0, hz1, hz2⟩ := info_parts Ybaf.info80
  by_cases h0 : 0 < len
  · obtain ⟨rfl, hst⟩ := hs h0
    obtain ⟨co, h1, h2, h3, h4⟩ := hst.ones
    have hf := run_firstCells_some (P := Ybaf.prog) W 3 len ⟨g, 0, none⟩ len cc co.toList (by simp [h2]) (fun j v hj => by
      have e : (⟨g, 0, none⟩ : Addr).add j = ⟨g, j, none⟩ := by unfold Addr.add; split <;> simp_all
      rw [e, cell_row h1]; simpa using hj)
    have hst := run_storeCells_at Ybaf.prog K 0 80 co.toList 0 Z W hK (by simp [h2, hZ]) h3
    have hd : Z.toList.drop co.size = [] := List.drop_of_length_le (by simp [h2, hZ])
    simp only [Nat.add_zero, List.take_zero, List.nil_append, Nat.zero_add, Array.length_toList, hd, List.append_nil, Array.toArray_toList] at hst
    refine ⟨W.setRow K co, fun ty => ?_, fun _ => ⟨co, setRow_heap W K Z co 80 _ hK, h2, h4⟩, fun k hk => setRow_other W K k co hk, by simp, rfl, rfl, rfl⟩
    simp [Builtin.copy_, run_underlying Ybaf.underlying78, Builtin.lenOf, sizeOf, typeInfo, hi, hz1, hf, hst]
  · obtain rfl : len = 0 := by omega
    refine ⟨W, fun ty => ?_, fun h => absurd h h0, fun _ _ => rfl, rfl, rfl, rfl, rfl⟩
    cases sa <;> simp [Builtin.copy_, run_underlying Ybaf.underlying78, Builtin.lenOf, sizeOf, typeInfo, hi, Builtin.firstCells, loadCells, storeCells, loadCellsFrom]

end Go.Proofs.YbulkettaFmt
