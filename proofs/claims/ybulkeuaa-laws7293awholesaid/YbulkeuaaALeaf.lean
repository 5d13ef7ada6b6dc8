/-
  LawS7293AWhole: the copies that the law makes, and the two comparisons, by their contracts.
-/
import Derived.Test.YbulkeuaaRows
import Derived.WalkKit
import Derived.WalkSpells
import Derived.WalkLawsBesides
import Derived.RowKitTokens
import Derived.Below
import Derived.Laws.Rows
import Derived.Deep.RegionHeld3
import Derived.Deep.DrawnRows
import Derived.Deep.QuietTactic
import Derived.BigQuiet
import Derived.Deep.DeepCutAuto
import Derived.Deep.CutBlock
namespace Go.Proofs.Ybulkeuaa
open Go.RowKit
attribute [local go_sem ↓] Go.wp_at_zero Go.wp_at_succ

theorem eq_nil {P : Program} (w : World) {t e : TypeId} (a : Option Addr) (n c n' c' : Nat) (h : P.underlying t = some (.slice e)) : (binOp .eql t (.slice a n c) (.slice none n' c')).run P w = .ok (.bool a.isNone) w := by
  have q : ∀ d : Nat, (Op.equalIn (d + 1) t (.slice a n c) (.slice none n' c')).run P w = .ok a.isNone w := fun d => by cases a <;> simp [Op.equalIn, run_underlying h]
  simp only [binOp]
  simp [Op.equal, Op.maxDepth, q 9999]

theorem hid {P : Prop} (h : P) : Hid P := h

theorem info_parts {P : Program} {t : TypeId} {z : Option Value} {s b : Nat} (h : (P.info? t).map (fun i => (i.zero, i.size, i.bytes)) = some (z, s, b)) : ∃ i, P.info? t = some i ∧ i.zero = z ∧ i.size = s ∧ i.bytes = b := by
  obtain ⟨i, hi, he⟩ := Option.map_eq_some_iff.1 h
  simp only [Prod.mk.injEq] at he
  exact ⟨i, hi, he⟩

theorem Yba.info53 : (Yba.prog.info? 53).map (fun i => (i.zero, i.size, i.bytes)) = some (some (.agg #[.string ByteArray.empty, .string ByteArray.empty, .string ByteArray.empty]), 3, 48) := by kernel_rfl
theorem Yba.info9 : (Yba.prog.info? 9).map (fun i => (i.zero, i.size, i.bytes)) = some (some (.string ByteArray.empty), 1, 16) := by kernel_rfl

theorem make_refs (len : Nat) (hlen : len ≤ 1048576) : ∃ Z : Array Value, Z.size = len * 3 ∧ ∀ w : World, (Instr.makeSlice 31 (.int .i64 len) (.int .i64 len)).run Yba.prog w = .ok (.slice (some ⟨w.heap.size, 0, none⟩) len len) (w.alloc (.cells Z 53)) := by
  obtain ⟨i0, hi, hz0, hz1, hz2⟩ := info_parts Yba.info53
  refine ⟨madeCells (Value.agg #[.string ByteArray.empty, .string ByteArray.empty, .string ByteArray.empty]).cells (len * 3), size_madeCells _ _, fun w => ?_⟩
  have := run_make (P := Yba.prog) w 31 53 i0 _ Yba.underlying31 hi hz0 .i64 .i64 len len (by omega) (Int.le_refl _) (by rw [hz2]; omega) (by omega)
  rw [this, hz1]
  simp

theorem make_strs (len : Nat) (hlen : len ≤ 1048576) : ∃ Z : Array Value, Z.size = len ∧ ∀ w : World, (Instr.makeSlice 23 (.int .i64 len) (.int .i64 len)).run Yba.prog w = .ok (.slice (some ⟨w.heap.size, 0, none⟩) len len) (w.alloc (.cells Z 9)) := by
  obtain ⟨i0, hi, hz0, hz1, hz2⟩ := info_parts Yba.info9
  refine ⟨madeCells (Value.string ByteArray.empty).cells (len * 1), by rw [size_madeCells]; omega, fun w => ?_⟩
  have := run_make (P := Yba.prog) w 23 9 i0 _ Yba.underlying23 hi hz0 .i64 .i64 len len (by omega) (Int.le_refl _) (by rw [hz2]; omega) (by omega)
  rw [this, hz1]
  simp

/-- The block g holds 'len' refs; the first k of them are filled. -/
def St (len k : Nat) (V R L : Nat → ByteArray) (g : Nat) (w : World) : Prop :=
  ∃ co, w.heap[g]? = some (.cells co 53 (0, 0)) ∧ co.size = len * 3 ∧
    ∀ j, j < k → co[j * 3]? = some (.string (V j)) ∧ co[j * 3 + 1]? = some (.string (R j)) ∧ co[j * 3 + 2]? = some (.string (L j))

/-- The block g holds 'len' strings; the first k of them are filled. -/
def Ss (len k : Nat) (S : Nat → ByteArray) (g : Nat) (w : World) : Prop :=
  ∃ co, w.heap[g]? = some (.cells co 9 (0, 0)) ∧ co.size = len ∧ ∀ j, j < k → co[j]? = some (.string (S j))

theorem cell_row {w : World} {g j : Nat} {co : Array Value} {e : TypeId} (h1 : w.heap[g]? = some (.cells co e (0, 0))) : w.cell? ⟨g, j, none⟩ = co[j]? := by
  simp [World.cell?, h1]
theorem free_row {w : World} {g j : Nat} {co : Array Value} {e : TypeId} (h1 : w.heap[g]? = some (.cells co e (0, 0))) : w.frozen? ⟨g, j, none⟩ = false := by
  simp [World.frozen?, h1]
theorem heap_put (w : World) {g j : Nat} {co : Array Value} {e : TypeId} (v : Value) (h : w.heap[g]? = some (.cells co e (0, 0))) : (w.setCell ⟨g, j, none⟩ v).heap[g]? = some (.cells (co.setIfInBounds j v) e (0, 0)) := by
  simp [World.setCell, Array.getElem?_modify, h]
theorem far {w : World} {x a : Addr} (v : Value) (h : a.block ≠ x.block) : (w.setCell x v).cell? a = w.cell? a := World.cell?_of_block (Below.heap_setCell w x v a.block h)
theorem far3 {w : World} {g j0 j1 j2 : Nat} {v0 v1 v2 v : Value} {a : Addr} (h : a.block ≠ g) (hc : w.cell? a = some v) :
    (((w.setCell ⟨g, j0, none⟩ v0).setCell ⟨g, j1, none⟩ v1).setCell ⟨g, j2, none⟩ v2).drew.cell? a = some v :=
  ((far (w := (w.setCell ⟨g, j0, none⟩ v0).setCell ⟨g, j1, none⟩ v1) v2 h).trans ((far (w := w.setCell ⟨g, j0, none⟩ v0) v1 h).trans ((far v0 h).trans hc)))
theorem keep3 {w : World} {g b o0 o1 o2 j0 j1 j2 : Nat} {v0 v1 v2 x0 x1 x2 : Value} (h : b ≠ g) (h0 : w.cell? ⟨b, o0, none⟩ = some x0) (h1 : w.cell? ⟨b, o1, none⟩ = some x1) (h2 : w.cell? ⟨b, o2, none⟩ = some x2) :
    (fun w' : World => w'.cell? ⟨b, o0, none⟩ = some x0 ∧ w'.cell? ⟨b, o1, none⟩ = some x1 ∧ w'.cell? ⟨b, o2, none⟩ = some x2) (((w.setCell ⟨g, j0, none⟩ v0).setCell ⟨g, j1, none⟩ v1).setCell ⟨g, j2, none⟩ v2).drew :=
  ⟨far3 (a := ⟨b, o0, none⟩) h h0, far3 (a := ⟨b, o1, none⟩) h h1, far3 (a := ⟨b, o2, none⟩) h h2⟩
theorem cell_later {w w' : World} {a : Addr} {v : Value} (hb : Below w.heap.size w w') (h : w.cell? a = some v) : w'.cell? a = some v :=
  (hb.cell (World.block_lt_of_cell? w _ h)).trans h

section
variable {len k g : Nat} {V R L S : Nat → ByteArray} {w w' : World}

theorem St.lt (h : St len k V R L g w) : g < w.heap.size := by
  obtain ⟨co, h1, _⟩ := h
  exact (Array.getElem?_eq_some_iff.1 h1).1
theorem St.below (h : St len k V R L g w) (hb : Below w.heap.size w w') : St len k V R L g w' := by
  have hl := h.lt
  obtain ⟨co, h1, h2⟩ := h
  exact ⟨co, (hb.block g hl).trans h1, h2⟩
theorem St.start (w : World) (Z : Array Value) (hZ : Z.size = len * 3) : St len 0 V R L w.heap.size (w.alloc (.cells Z 53)) :=
  ⟨Z, heap_alloc_new w _, hZ, fun j hj => absurd hj (by omega)⟩
theorem St.room (h : St len k V R L g w) {j : Nat} (hj : j < len) :
    (∃ v, w.cell? ⟨g, j * 3, none⟩ = some v) ∧ (∃ v, w.cell? ⟨g, j * 3 + 1, none⟩ = some v) ∧ (∃ v, w.cell? ⟨g, j * 3 + 2, none⟩ = some v) ∧ ∀ i, w.frozen? ⟨g, i, none⟩ = false := by
  obtain ⟨co, h1, h2, _⟩ := h
  refine ⟨⟨co[j * 3], ?_⟩, ⟨co[j * 3 + 1], ?_⟩, ⟨co[j * 3 + 2], ?_⟩, fun i => free_row h1⟩
  · rw [cell_row h1]; simp
  · rw [cell_row h1]; simp
  · rw [cell_row h1]; simp
theorem St.read (h : St len k V R L g w) {j : Nat} (hj : j < k) : w.cell? ⟨g, j * 3, none⟩ = some (.string (V j)) ∧ w.cell? ⟨g, j * 3 + 1, none⟩ = some (.string (R j)) ∧ w.cell? ⟨g, j * 3 + 2, none⟩ = some (.string (L j)) := by
  obtain ⟨co, h1, h2, h3⟩ := h
  rw [cell_row h1, cell_row h1, cell_row h1]
  exact h3 j hj
theorem St.step (h : St len k V R L g w) (hk : k < len) :
    St len (k + 1) V R L g (((w.setCell ⟨g, k * 3, none⟩ (.string (V k))).setCell ⟨g, k * 3 + 1, none⟩ (.string (R k))).setCell ⟨g, k * 3 + 2, none⟩ (.string (L k))) := by
  obtain ⟨co, h1, h2, h3⟩ := h
  refine ⟨_, heap_put _ _ (heap_put _ _ (heap_put w _ h1)), by simp [h2], fun j hj => ?_⟩
  by_cases hjk : j = k
  · subst hjk
    refine ⟨?_, ?_, ?_⟩
    · rw [Array.getElem?_setIfInBounds_ne (by omega), Array.getElem?_setIfInBounds_ne (by omega), Array.getElem?_setIfInBounds_self_of_lt (by omega)]
    · rw [Array.getElem?_setIfInBounds_ne (by omega), Array.getElem?_setIfInBounds_self_of_lt (by simp; omega)]
    · rw [Array.getElem?_setIfInBounds_self_of_lt (by simp; omega)]
  · obtain ⟨a, b, c⟩ := h3 j (by omega)
    refine ⟨?_, ?_, ?_⟩
    · rw [Array.getElem?_setIfInBounds_ne (by omega), Array.getElem?_setIfInBounds_ne (by omega), Array.getElem?_setIfInBounds_ne (by omega)]; exact a
    · rw [Array.getElem?_setIfInBounds_ne (by omega), Array.getElem?_setIfInBounds_ne (by omega), Array.getElem?_setIfInBounds_ne (by omega)]; exact b
    · rw [Array.getElem?_setIfInBounds_ne (by omega), Array.getElem?_setIfInBounds_ne (by omega), Array.getElem?_setIfInBounds_ne (by omega)]; exact c

theorem Ss.lt (h : Ss len k S g w) : g < w.heap.size := by
  obtain ⟨co, h1, _⟩ := h
  exact (Array.getElem?_eq_some_iff.1 h1).1
theorem Ss.below (h : Ss len k S g w) (hb : Below w.heap.size w w') : Ss len k S g w' := by
  have hl := h.lt
  obtain ⟨co, h1, h2⟩ := h
  exact ⟨co, (hb.block g hl).trans h1, h2⟩
theorem Ss.start (w : World) (Z : Array Value) (hZ : Z.size = len) : Ss len 0 S w.heap.size (w.alloc (.cells Z 9)) :=
  ⟨Z, heap_alloc_new w _, hZ, fun j hj => absurd hj (by omega)⟩
theorem Ss.room (h : Ss len k S g w) {j : Nat} (hj : j < len) : (∃ v, w.cell? ⟨g, j, none⟩ = some v) ∧ w.frozen? ⟨g, j, none⟩ = false := by
  obtain ⟨co, h1, h2, _⟩ := h
  refine ⟨⟨co[j], ?_⟩, free_row h1⟩
  rw [cell_row h1]; simp
theorem Ss.read (h : Ss len k S g w) {j : Nat} (hj : j < k) : w.cell? ⟨g, j, none⟩ = some (.string (S j)) := by
  obtain ⟨co, h1, h2, h3⟩ := h
  rw [cell_row h1]
  exact h3 j hj
theorem Ss.step (h : Ss len k S g w) (hk : k < len) : Ss len (k + 1) S g (w.setCell ⟨g, k, none⟩ (.string (S k))) := by
  obtain ⟨co, h1, h2, h3⟩ := h
  refine ⟨_, heap_put w _ h1, by simp [h2], fun j hj => ?_⟩
  by_cases hjk : j = k
  · subst hjk
    rw [Array.getElem?_setIfInBounds_self_of_lt (by omega)]
  · rw [Array.getElem?_setIfInBounds_ne (by omega)]; exact h3 j (by omega)
end

def Out3 (a0 : Option Addr) (len : Nat) (V R L : Nat → ByteArray) (w : World) (e : Ending) (w' : World) : Prop :=
  ∃ sa cc g, e = .returned (.slice sa len cc) ∧ Below w.heap.size w w' ∧ sa.isNone = a0.isNone ∧ (0 < len → sa = some ⟨g, 0, none⟩ ∧ St len len V R L g w')
def Out1 (a0 : Option Addr) (len : Nat) (S : Nat → ByteArray) (w : World) (e : Ending) (w' : World) : Prop :=
  ∃ sa cc g, e = .returned (.slice sa len cc) ∧ Below w.heap.size w w' ∧ sa.isNone = a0.isNone ∧ (0 < len → sa = some ⟨g, 0, none⟩ ∧ Ss len len S g w')

set_option maxHeartbeats 1000000 in
/-- zzs7293arefs -/
theorem refs_any (a0 : Option Addr) (b off len cap : Nat) (V R L : Nat → ByteArray) (w : World) (hlen : len ≤ 1048576) (hn0 : a0 = none → len = 0) (ha : 0 < len → a0 = some ⟨b, off, none⟩)
    (h0 : ∀ j, j < len → w.cell? ⟨b, off + j * 3, none⟩ = some (.string (V j)))
    (h1 : ∀ j, j < len → w.cell? ⟨b, off + j * 3 + 1, none⟩ = some (.string (R j)))
    (h2 : ∀ j, j < len → w.cell? ⟨b, off + j * 3 + 2, none⟩ = some (.string (L j))) :
    Calls Yba.prog 4 #[.slice a0 len cap] w (Out3 a0 len V R L w) := by
  have q22 : ∀ (w : World) (a : Option Addr) (n c n' c' : Nat), (binOp .eql 22 (.slice a n c) (.slice none n' c')).run Yba.prog w = .ok (.bool a.isNone) w := fun w a n c n' c' => eq_nil w a n c n' c' Yba.underlying22
  obtain ⟨Z, hZ, hmk⟩ := make_refs len hlen
  have HZ := hid hZ
  have HA := hid ha
  have HN0 := hid hn0
  have H0 := hid h0
  have H1 := hid h1
  have H2 := hid h2
  have HMK := hid hmk
  clear hZ ha hn0 h0 h1 h2 hmk
  cases a0 with
  | none =>
    obtain rfl : len = 0 := HN0.out rfl
    go_enter Yba.func4, Yba.ntmps4
    go_wp2
    go_ret
    exact ⟨none, 0, 0, rfl, Below.refl _ _, rfl, fun h => absurd h (by omega)⟩
  | some x =>
    have hmk := HMK.out
    go_enter Yba.func4, Yba.ntmps4
    go_wp2_with fail
    clear hmk
    go_loopw [4] (fun i wr => ∃ k : Nat, k ≤ len ∧ i = .int .i64 k ∧ Below w.heap.size w wr ∧ St len k V R L w.heap.size wr) (fun i _ => len - (intOf i).toNat)
    case atStart => exact ⟨0, Nat.zero_le _, rfl, (Below.refl _ _).alloc (Nat.le_refl _) _, St.start w Z HZ.out⟩
    case round =>
      obtain ⟨k, hk, rfl, hb, hst⟩ := hrel
      by_cases hkl : k < len
      · have hkl' : (k : Int) < (len : Int) := by omega
        have hk0 : (0 : Int) ≤ (k : Int) := by omega
        obtain rfl : x = ⟨b, off, none⟩ := by simpa using HA.out (by omega)
        have hbN : b < w.heap.size := World.block_lt_of_cell? w _ (H0.out k hkl)
        have hbne : b ≠ w.heap.size := by omega
        have s0 : wr.cell? ⟨b, off + k * 3, none⟩ = some (.string (V k)) := (hb.cell (p := ⟨b, off + k * 3, none⟩) hbN).trans (H0.out k hkl)
        have s1 : wr.cell? ⟨b, off + k * 3 + 1, none⟩ = some (.string (R k)) := (hb.cell (p := ⟨b, off + k * 3 + 1, none⟩) hbN).trans (H1.out k hkl)
        have s2 : wr.cell? ⟨b, off + k * 3 + 2, none⟩ = some (.string (L k)) := (hb.cell (p := ⟨b, off + k * 3 + 2, none⟩) hbN).trans (H2.out k hkl)
        obtain ⟨⟨v0, e0⟩, ⟨v1, e1⟩, ⟨v2, e2⟩, f0⟩ := hst.room hkl
        go_wp2_with fail
        go_region_held3 (fun w' => w'.cell? ⟨b, off + k * 3, none⟩ = some (.string (V k)) ∧ w'.cell? ⟨b, off + k * 3 + 1, none⟩ = some (.string (R k)) ∧ w'.cell? ⟨b, off + k * 3 + 2, none⟩ = some (.string (L k)))
          (first | (go_keep; done) | (exact keep3 hbne s0 s1 s2)) (fail)
        generalize hW : (((wr.setCell ⟨w.heap.size, k * 3, none⟩ (.string (V k))).setCell ⟨w.heap.size, k * 3 + 1, none⟩ (.string (R k))).setCell ⟨w.heap.size, k * 3 + 2, none⟩ (.string (L k))).drew = w2
        have hst2 : St len (k + 1) V R L w.heap.size w2 := by rw [← hW]; exact hst.step hkl
        have hb2 : Below w.heap.size w w2 := by rw [← hW]; exact (((hb.setCell (Nat.le_refl _) _).setCell (Nat.le_refl _) _).setCell (Nat.le_refl _) _).drew
        clear hW hst hb s0 s1 s2 e0 e1 e2 f0
        go_wp2_with fail
        go_roundw
        case rel => exact ⟨k + 1, by omega, by go_num, hb2, hst2⟩
        case measure => simp [intOf]; omega
      · go_wp2_with fail
        go_ret
        exact ⟨_, len, w.heap.size, rfl, hb, rfl, fun _ => ⟨rfl, by obtain rfl : k = len := by omega
                                                                    exact hst⟩⟩

set_option maxHeartbeats 1000000 in
/-- zzs7293astrs -/
theorem strs_any (a0 : Option Addr) (b off len cap : Nat) (S : Nat → ByteArray) (w : World) (hlen : len ≤ 1048576) (hn0 : a0 = none → len = 0) (ha : 0 < len → a0 = some ⟨b, off, none⟩)
    (h0 : ∀ j, j < len → w.cell? ⟨b, off + j, none⟩ = some (.string (S j))) :
    Calls Yba.prog 5 #[.slice a0 len cap] w (Out1 a0 len S w) := by
  have q23 : ∀ (w : World) (a : Option Addr) (n c n' c' : Nat), (binOp .eql 23 (.slice a n c) (.slice none n' c')).run Yba.prog w = .ok (.bool a.isNone) w := fun w a n c n' c' => eq_nil w a n c n' c' Yba.underlying23
  obtain ⟨Z, hZ, hmk⟩ := make_strs len hlen
  have HZ := hid hZ
  have HA := hid ha
  have HN0 := hid hn0
  have H0 := hid h0
  have HMK := hid hmk
  clear hZ ha hn0 h0 hmk
  cases a0 with
  | none =>
    obtain rfl : len = 0 := HN0.out rfl
    go_enter Yba.func5, Yba.ntmps5
    go_wp2
    go_ret
    exact ⟨none, 0, 0, rfl, Below.refl _ _, rfl, fun h => absurd h (by omega)⟩
  | some x =>
    have hmk := HMK.out
    go_enter Yba.func5, Yba.ntmps5
    go_wp2_with fail
    clear hmk
    go_loopw [4] (fun i wr => ∃ k : Nat, k ≤ len ∧ i = .int .i64 k ∧ Below w.heap.size w wr ∧ Ss len k S w.heap.size wr) (fun i _ => len - (intOf i).toNat)
    case atStart => exact ⟨0, Nat.zero_le _, rfl, (Below.refl _ _).alloc (Nat.le_refl _) _, Ss.start w Z HZ.out⟩
    case round =>
      obtain ⟨k, hk, rfl, hb, hst⟩ := hrel
      by_cases hkl : k < len
      · have hkl' : (k : Int) < (len : Int) := by omega
        have hk0 : (0 : Int) ≤ (k : Int) := by omega
        obtain rfl : x = ⟨b, off, none⟩ := by simpa using HA.out (by omega)
        have hbN : b < w.heap.size := World.block_lt_of_cell? w _ (H0.out k hkl)
        have hbne : b ≠ w.heap.size := by omega
        have s0 : wr.cell? ⟨b, off + k, none⟩ = some (.string (S k)) := (hb.cell (p := ⟨b, off + k, none⟩) hbN).trans (H0.out k hkl)
        obtain ⟨⟨v0, e0⟩, f0⟩ := hst.room hkl
        go_wp2_with fail
        generalize hW : (wr.setCell ⟨w.heap.size, k, none⟩ (.string (S k))) = w2
        have hst2 : Ss len (k + 1) S w.heap.size w2 := by rw [← hW]; exact hst.step hkl
        have hb2 : Below w.heap.size w w2 := by rw [← hW]; exact hb.setCell (Nat.le_refl _) _
        clear hW hst hb s0 e0 f0
        go_roundw
        case rel => exact ⟨k + 1, by omega, by go_num, hb2, hst2⟩
        case measure => simp [intOf]; omega
      · go_wp2_with fail
        go_ret
        exact ⟨_, len, w.heap.size, rfl, hb, rfl, fun _ => ⟨rfl, by obtain rfl : k = len := by omega
                                                                    exact hst⟩⟩

end Go.Proofs.Ybulkeuaa
