/-
  LawS7280BWhole: what the law's own memory holds, said of worlds.
-/
import Derived.Test.YbulkettaFmtBLeaf
namespace Go.Proofs.YbulkettaFmt.B
open Go.RowKit Go.Extern.Stop Go.Stop Go.Extern Go.Maps Classical

theorem cell_row {w : World} {g j : Nat} {co : Array Value} {e : TypeId} (h1 : w.heap[g]? = some (.cells co e (0, 0))) : w.cell? ⟨g, j, none⟩ = co[j]? := by
  simp [World.cell?, h1]
theorem free_row {w : World} {g j : Nat} {co : Array Value} {e : TypeId} (h1 : w.heap[g]? = some (.cells co e (0, 0))) : w.frozen? ⟨g, j, none⟩ = false := by
  simp [World.frozen?, h1]
theorem heap_put (w : World) {g j : Nat} {co : Array Value} {e : TypeId} (v : Value) (h : w.heap[g]? = some (.cells co e (0, 0))) : (w.setCell ⟨g, j, none⟩ v).heap[g]? = some (.cells (co.setIfInBounds j v) e (0, 0)) := by
  simp [World.setCell, Array.getElem?_modify, h]
theorem heap_far (w : World) {g j b : Nat} (v : Value) (h : b ≠ g) : (w.setCell ⟨g, j, none⟩ v).heap[b]? = w.heap[b]? := Below.heap_setCell w ⟨g, j, none⟩ v b h
theorem far {w : World} {x a : Addr} (v : Value) (h : a.block ≠ x.block) : (w.setCell x v).cell? a = w.cell? a := World.cell?_of_block (Below.heap_setCell w x v a.block h)

/-! ### Arrays of four -/
def Arr (w : World) (B : Nat) (t : TypeId) (g : Nat → Value) : Prop := w.heap[B]? = some (.cells #[g 0, g 1, g 2, g 3] t (0, 0))

theorem Arr.kept {w w' : World} {B : Nat} {t : TypeId} {g : Nat → Value} (h : Arr w B t g) (hB : w'.heap[B]? = w.heap[B]?) : Arr w' B t g := hB.trans h
theorem Arr.lt {w : World} {B : Nat} {t : TypeId} {g : Nat → Value} (h : Arr w B t g) : B < w.heap.size := (Array.getElem?_eq_some_iff.1 h).1
theorem Arr.cell {w : World} {B : Nat} {t : TypeId} {g : Nat → Value} (h : Arr w B t g) {j : Nat} (hj : j < 4) : w.cell? ⟨B, j, none⟩ = some (g j) := by
  rw [cell_row h]
  match j, hj with
  | 0, _ => rfl
  | 1, _ => rfl
  | 2, _ => rfl
  | 3, _ => rfl
theorem Arr.free {w : World} {B : Nat} {t : TypeId} {g : Nat → Value} (h : Arr w B t g) (j : Nat) : w.frozen? ⟨B, j, none⟩ = false := free_row h
theorem Arr.put {w : World} {B : Nat} {t : TypeId} {g g' : Nat → Value} (h : Arr w B t g) {j : Nat} (hj : j < 4) {v : Value} (hv : g' j = v) (ho : ∀ i, i < 4 → i ≠ j → g' i = g i) : Arr (w.setCell ⟨B, j, none⟩ v) B t g' := by
  unfold Arr
  rw [heap_put w v h]
  match j, hj with
  | 0, _ => simp [hv, ho 1 (by decide) (by decide), ho 2 (by decide) (by decide), ho 3 (by decide) (by decide)]
  | 1, _ => simp [hv, ho 0 (by decide) (by decide), ho 2 (by decide) (by decide), ho 3 (by decide) (by decide)]
  | 2, _ => simp [hv, ho 0 (by decide) (by decide), ho 1 (by decide) (by decide), ho 3 (by decide) (by decide)]
  | 3, _ => simp [hv, ho 0 (by decide) (by decide), ho 1 (by decide) (by decide), ho 2 (by decide) (by decide)]
theorem Arr.congr {w : World} {B : Nat} {t : TypeId} {g g' : Nat → Value} (h : Arr w B t g) (hg : ∀ j, j < 4 → g' j = g j) : Arr w B t g' := by
  unfold Arr
  rw [hg 0 (by decide), hg 1 (by decide), hg 2 (by decide), hg 3 (by decide)]
  exact h

/-! ### The registry beside its arrays -/
def cnt (fd : Nat → Bool) : Nat := (fd 0).toNat + (fd 1).toNat + (fd 2).toNat + (fd 3).toNat

structure Lp (R M Bf Bo Bp Bs : Nat) (f : Value → Option Value) (fd ow : Nat → Bool) (pt : Nat → Nat) (reg ot : ByteArray) (w : World) : Prop where
  rg : Reg R M (cnt fd) f fd ow pt reg ot w
  af : Arr w Bf 44 (fun j => .bool (fd j))
  ao : Arr w Bo 44 (fun j => .bool (ow j))
  ap : Arr w Bp 46 (fun j => .pointer (if fd j then some ⟨pt j, 0, none⟩ else none))
  az : Arr w Bs 47 (fun j => .string (if fd j then (if ow j then reg else ot) else ⟨#[]⟩))
  past : ∀ j, j < 4 → fd j = true → Bs < pt j

/-- The fixed blocks lie apart. -/
def Order (M R Bf Bo Bp Bs : Nat) : Prop := M < R ∧ R < Bf ∧ Bf < Bo ∧ Bo < Bp ∧ Bp < Bs

section
variable {R M Bf Bo Bp Bs : Nat} {f : Value → Option Value} {fd ow : Nat → Bool} {pt : Nat → Nat} {reg ot : ByteArray} {w w' : World}

theorem Lp.below (h : Lp R M Bf Bo Bp Bs f fd ow pt reg ot w) (hb : Below w.heap.size w w') : Lp R M Bf Bo Bp Bs f fd ow pt reg ot w' :=
  ⟨h.rg.below hb, h.af.kept (hb.block _ h.af.lt), h.ao.kept (hb.block _ h.ao.lt), h.ap.kept (hb.block _ h.ap.lt), h.az.kept (hb.block _ h.az.lt), h.past⟩

theorem id_inj {i j : Nat} (hi : i < 4) (hj : j < 4) (h : idS i = idS j) : i = j := by
  match i, hi, j, hj with
  | 0, _, 0, _ => rfl
  | 1, _, 1, _ => rfl
  | 2, _, 2, _ => rfl
  | 3, _, 3, _ => rfl
  | 0, _, 1, _ => simp [idS] at h
  | 0, _, 2, _ => simp [idS] at h
  | 0, _, 3, _ => simp [idS] at h
  | 1, _, 0, _ => simp [idS] at h
  | 1, _, 2, _ => simp [idS] at h
  | 1, _, 3, _ => simp [idS] at h
  | 2, _, 0, _ => simp [idS] at h
  | 2, _, 1, _ => simp [idS] at h
  | 2, _, 3, _ => simp [idS] at h
  | 3, _, 0, _ => simp [idS] at h
  | 3, _, 1, _ => simp [idS] at h
  | 3, _, 2, _ => simp [idS] at h

theorem cnt_put {k : Nat} (hk : k < 4) : cnt (fun j => if j = k then true else fd j) = if fd k then cnt fd else cnt fd + 1 := by
  unfold cnt
  match k, hk with
  | 0, _ => cases h : fd 0 <;> simp <;> omega
  | 1, _ => cases h : fd 1 <;> simp <;> omega
  | 2, _ => cases h : fd 2 <;> simp <;> omega
  | 3, _ => cases h : fd 3 <;> simp

/-- One round of the first loop: the contact laid (w1), the map written (w2), the four arrays written. -/
theorem Lp.step (h : Lp R M Bf Bo Bp Bs f fd ow pt reg ot w) (ho : Order M R Bf Bo Bp Bs) {w1 w2 : World} {P k n' : Nat} (hk : k < 4) (o : Bool) (hb1 : Below w.heap.size w w1) (hP : w.heap.size ≤ P)
    (c0 : w1.cell? ⟨P, 0, none⟩ = some (.string (idS k))) (c10 : w1.cell? ⟨P, 10, none⟩ = some (.string (if o then reg else ot)))
    (hb2 : But M w1 w2) (hm : Mp Ybaf.prog 9 w2 M n' (putAt f (.string (idS k)) (.pointer (some ⟨P, 0, none⟩)))) (hn : n' = if (f (.string (idS k))).isSome then cnt fd else cnt fd + 1) :
    Lp R M Bf Bo Bp Bs (putAt f (.string (idS k)) (.pointer (some ⟨P, 0, none⟩))) (fun j => if j = k then true else fd j) (fun j => if j = k then o else ow j) (fun j => if j = k then P else pt j) reg ot
      ((((w2.setCell ⟨Bf, k, none⟩ (.bool true)).setCell ⟨Bo, k, none⟩ (.bool o)).setCell ⟨Bp, k, none⟩ (.pointer (some ⟨P, 0, none⟩))).setCell ⟨Bs, k, none⟩ (.string (if o then reg else ot))) := by
  obtain ⟨o1, o2, o3, o4, o5⟩ := ho
  have hl := h.below hb1
  have hBs := h.az.lt
  have blk : ∀ b, b ≠ M → b ≠ Bf → b ≠ Bo → b ≠ Bp → b ≠ Bs → ((((w2.setCell ⟨Bf, k, none⟩ (.bool true)).setCell ⟨Bo, k, none⟩ (.bool o)).setCell ⟨Bp, k, none⟩ (.pointer (some ⟨P, 0, none⟩))).setCell ⟨Bs, k, none⟩ (.string (if o then reg else ot))).heap[b]? = w1.heap[b]? := by
    intro b h0 h1 h2 h3 h4
    rw [heap_far _ _ h4, heap_far _ _ h3, heap_far _ _ h2, heap_far _ _ h1]
    exact hb2.block b h0
  have cel : ∀ (a : Addr), a.block ≠ M → a.block ≠ Bf → a.block ≠ Bo → a.block ≠ Bp → a.block ≠ Bs → ((((w2.setCell ⟨Bf, k, none⟩ (.bool true)).setCell ⟨Bo, k, none⟩ (.bool o)).setCell ⟨Bp, k, none⟩ (.pointer (some ⟨P, 0, none⟩))).setCell ⟨Bs, k, none⟩ (.string (if o then reg else ot))).cell? a = w1.cell? a :=
    fun a h0 h1 h2 h3 h4 => World.cell?_of_block (blk a.block h0 h1 h2 h3 h4)
  have hfs : (f (.string (idS k))).isSome = fd k := by rw [h.rg.val k hk]; cases fd k <;> rfl
  refine ⟨⟨?_, ?_, ?_, ?_, ?_⟩, ?_, ?_, ?_, ?_, ?_⟩
  · exact (cel ⟨R, 7, none⟩ (by show R ≠ M; omega) (by show R ≠ Bf; omega) (by show R ≠ Bo; omega) (by show R ≠ Bp; omega) (by show R ≠ Bs; omega)).trans hl.rg.cell
  · rw [cnt_put hk, ← hfs, ← hn]
    refine hm.kept ?_
    rw [heap_far _ _ (by omega), heap_far _ _ (by omega), heap_far _ _ (by omega), heap_far _ _ (by omega)]
  · intro j hj
    by_cases hjk : j = k
    · subst hjk
      rw [putAt_same]
      simp
    · rw [putAt_other _ _ (fun e => hjk (id_inj hj hk (by simpa using e))), h.rg.val j hj]
      simp [hjk]
  · intro j hj hf
    by_cases hjk : j = k
    · subst hjk
      simp only [if_true]
      exact (cel ⟨P, 0, none⟩ (by show P ≠ M; omega) (by show P ≠ Bf; omega) (by show P ≠ Bo; omega) (by show P ≠ Bp; omega) (by show P ≠ Bs; omega)).trans c0
    · simp only [if_neg hjk] at hf ⊢
      have hp := h.past j hj hf
      exact (cel ⟨pt j, 0, none⟩ (by show pt j ≠ M; omega) (by show pt j ≠ Bf; omega) (by show pt j ≠ Bo; omega) (by show pt j ≠ Bp; omega) (by show pt j ≠ Bs; omega)).trans (hl.rg.id j hj hf)
  · intro j hj hf
    by_cases hjk : j = k
    · subst hjk
      simp only [if_true]
      exact (cel ⟨P, 10, none⟩ (by show P ≠ M; omega) (by show P ≠ Bf; omega) (by show P ≠ Bo; omega) (by show P ≠ Bp; omega) (by show P ≠ Bs; omega)).trans c10
    · simp only [if_neg hjk] at hf ⊢
      have hp := h.past j hj hf
      exact (cel ⟨pt j, 10, none⟩ (by show pt j ≠ M; omega) (by show pt j ≠ Bf; omega) (by show pt j ≠ Bo; omega) (by show pt j ≠ Bp; omega) (by show pt j ≠ Bs; omega)).trans (hl.rg.sponsor j hj hf)
  · have a0 : Arr w2 Bf 44 (fun j => .bool (fd j)) := hl.af.kept (hb2.block _ (by omega))
    refine (a0.put hk (v := .bool true) (g' := fun j => .bool (if j = k then true else fd j)) (by simp) (fun i _ hi => by simp [hi])).kept ?_
    rw [heap_far _ _ (by omega), heap_far _ _ (by omega), heap_far _ _ (by omega)]
  · have a0 : Arr (w2.setCell ⟨Bf, k, none⟩ (.bool true)) Bo 44 (fun j => .bool (ow j)) := hl.ao.kept ((heap_far _ _ (by omega)).trans (hb2.block _ (by omega)))
    refine (a0.put hk (v := .bool o) (g' := fun j => .bool (if j = k then o else ow j)) (by simp) (fun i _ hi => by simp [hi])).kept ?_
    rw [heap_far _ _ (by omega), heap_far _ _ (by omega)]
  · have a0 : Arr ((w2.setCell ⟨Bf, k, none⟩ (.bool true)).setCell ⟨Bo, k, none⟩ (.bool o)) Bp 46 (fun j => .pointer (if fd j then some ⟨pt j, 0, none⟩ else none)) := hl.ap.kept ((heap_far _ _ (by omega)).trans ((heap_far _ _ (by omega)).trans (hb2.block _ (by omega))))
    refine (a0.put hk (v := .pointer (some ⟨P, 0, none⟩)) (g' := fun j => .pointer (if (if j = k then true else fd j) then some ⟨if j = k then P else pt j, 0, none⟩ else none)) (by simp) (fun i _ hi => by simp [hi])).kept ?_
    rw [heap_far _ _ (by omega)]
  · have a0 : Arr (((w2.setCell ⟨Bf, k, none⟩ (.bool true)).setCell ⟨Bo, k, none⟩ (.bool o)).setCell ⟨Bp, k, none⟩ (.pointer (some ⟨P, 0, none⟩))) Bs 47 (fun j => .string (if fd j then (if ow j then reg else ot) else ⟨#[]⟩)) :=
      hl.az.kept ((heap_far _ _ (by omega)).trans ((heap_far _ _ (by omega)).trans ((heap_far _ _ (by omega)).trans (hb2.block _ (by omega)))))
    exact a0.put hk (g' := fun j => .string (if (if j = k then true else fd j) then (if (if j = k then o else ow j) then reg else ot) else ⟨#[]⟩)) (by simp) (fun i _ hi => by simp [hi])
  · intro j hj hf
    by_cases hjk : j = k
    · simp only [if_pos hjk]; omega
    · simp only [if_neg hjk] at hf ⊢
      exact h.past j hj hf

end

/-! ### Blocks of contacts -/
theorem Ybaf.info68 : (Ybaf.prog.info? 68).map (fun i => (i.zero, i.size, i.bytes)) = some (some (.agg #[.string ByteArray.empty, .string ByteArray.empty]), 2, 32) := by kernel_rfl

theorem make_contacts (len : Nat) (hlen : len ≤ 1048576) : ∃ Z : Array Value, Z.size = len * 2 ∧ ∀ w : World, (Instr.makeSlice 64 (.int .i64 len) (.int .i64 len)).run Ybaf.prog w = .ok (.slice (some ⟨w.heap.size, 0, none⟩) len len) (w.alloc (.cells Z 68)) := by
  obtain ⟨i0, hi, he⟩ := Option.map_eq_some_iff.1 Ybaf.info68
  simp only [Prod.mk.injEq] at he
  obtain ⟨hz0, hz1, hz2⟩ := he
  refine ⟨madeCells (Value.agg #[.string ByteArray.empty, .string ByteArray.empty]).cells (len * 2), size_madeCells _ _, fun w => ?_⟩
  have := run_make (P := Ybaf.prog) w 64 68 i0 _ Ybaf.underlying64 hi hz0 .i64 .i64 len len (by omega) (Int.le_refl _) (by rw [hz2]; omega) (by omega)
  rw [this, hz1]
  simp

/-- The block g holds 'len' contacts; the first k of them are filled. -/
def Ds (len k : Nat) (Ty : Nat → ByteArray) (q : Nat → Nat) (g : Nat) (w : World) : Prop :=
  ∃ co, w.heap[g]? = some (.cells co 68 (0, 0)) ∧ co.size = len * 2 ∧ ∀ j, j < k → co[j * 2]? = some (.string (Ty j)) ∧ co[j * 2 + 1]? = some (.string (idS (q j)))

section
variable {len k g : Nat} {Ty : Nat → ByteArray} {q : Nat → Nat} {w w' : World}

theorem Ds.lt (h : Ds len k Ty q g w) : g < w.heap.size := by
  obtain ⟨co, h1, _⟩ := h
  exact (Array.getElem?_eq_some_iff.1 h1).1
theorem Ds.kept (h : Ds len k Ty q g w) (hg : w'.heap[g]? = w.heap[g]?) : Ds len k Ty q g w' := by
  obtain ⟨co, h1, h2⟩ := h
  exact ⟨co, hg.trans h1, h2⟩
theorem Ds.below (h : Ds len k Ty q g w) (hb : Below w.heap.size w w') : Ds len k Ty q g w' := h.kept (hb.block g h.lt)
theorem Ds.start (w : World) (Z : Array Value) (hZ : Z.size = len * 2) : Ds len 0 Ty q w.heap.size (w.alloc (.cells Z 68)) :=
  ⟨Z, heap_alloc_new w _, hZ, fun j hj => absurd hj (by omega)⟩
theorem Ds.room (h : Ds len k Ty q g w) {j : Nat} (hj : j < len) : (∃ v, w.cell? ⟨g, j * 2, none⟩ = some v) ∧ (∃ v, w.cell? ⟨g, j * 2 + 1, none⟩ = some v) ∧ ∀ i, w.frozen? ⟨g, i, none⟩ = false := by
  obtain ⟨co, h1, h2, _⟩ := h
  refine ⟨⟨co[j * 2], ?_⟩, ⟨co[j * 2 + 1], ?_⟩, fun i => free_row h1⟩
  · rw [cell_row h1]; simp
  · rw [cell_row h1]; simp
theorem Ds.read (h : Ds len k Ty q g w) {j : Nat} (hj : j < k) : w.cell? ⟨g, j * 2, none⟩ = some (.string (Ty j)) ∧ w.cell? ⟨g, j * 2 + 1, none⟩ = some (.string (idS (q j))) := by
  obtain ⟨co, h1, h2, h3⟩ := h
  rw [cell_row h1, cell_row h1]
  exact h3 j hj
theorem Ds.step (h : Ds len k Ty q g w) (hk : k < len) : Ds len (k + 1) Ty q g ((w.setCell ⟨g, k * 2, none⟩ (.string (Ty k))).setCell ⟨g, k * 2 + 1, none⟩ (.string (idS (q k)))) := by
  obtain ⟨co, h1, h2, h3⟩ := h
  refine ⟨_, heap_put _ _ (heap_put w _ h1), by simp [h2], fun j hj => ?_⟩
  by_cases hjk : j = k
  · subst hjk
    refine ⟨?_, ?_⟩
    · rw [Array.getElem?_setIfInBounds_ne (by omega), Array.getElem?_setIfInBounds_self_of_lt (by omega)]
    · rw [Array.getElem?_setIfInBounds_self_of_lt (by simp; omega)]
  · obtain ⟨a, b⟩ := h3 j (by omega)
    refine ⟨?_, ?_⟩
    · rw [Array.getElem?_setIfInBounds_ne (by omega), Array.getElem?_setIfInBounds_ne (by omega)]; exact a
    · rw [Array.getElem?_setIfInBounds_ne (by omega), Array.getElem?_setIfInBounds_ne (by omega)]; exact b
end

/-- The world that the law lays ahead of its first loop. -/
abbrev startW (w : World) : World :=
  ((((((w.alloc (.map #[] 0)).alloc (.cells #[.nilFunc, .map none, .map none, .pointer none, .int .i32 0, .int .u32 0, .map none, .map (some w.heap.size), .map none, .int .u64 0, .map none, .map none, .map none] 43)).alloc
    (.cells #[.bool false, .bool false, .bool false, .bool false] 44)).alloc (.cells #[.bool false, .bool false, .bool false, .bool false] 44)).alloc (.cells #[.pointer none, .pointer none, .pointer none, .pointer none] 46)).alloc
      (.cells #[.string ⟨#[]⟩, .string ⟨#[]⟩, .string ⟨#[]⟩, .string ⟨#[]⟩] 47))

theorem start_below (w : World) : Below w.heap.size w (startW w) :=
  ((((((Below.refl _ _).alloc (Nat.le_refl _) _).alloc (by simp) _).alloc (by simp <;> omega) _).alloc (by simp <;> omega) _).alloc (by simp <;> omega) _).alloc (by simp <;> omega) _

theorem kept_alloc {w : World} {b : Nat} {o o' : Obj} (h : w.heap[b]? = some o) : (w.alloc o').heap[b]? = some o := (Below.heap_alloc _ _ _ (Array.getElem?_eq_some_iff.1 h).1).trans h

theorem start_lp (w : World) (reg ot : ByteArray) :
    Lp (w.heap.size + 1) w.heap.size (w.heap.size + 1 + 1) (w.heap.size + 1 + 1 + 1) (w.heap.size + 1 + 1 + 1 + 1) (w.heap.size + 1 + 1 + 1 + 1 + 1) (fun _ => none) (fun _ => false) (fun _ => false) (fun _ => 0) reg ot (startW w) := by
  refine ⟨⟨?_, ?_, fun _ _ => rfl, (fun _ _ h => by cases h), (fun _ _ h => by cases h)⟩, ?_, ?_, ?_, ?_, (fun _ _ h => by cases h)⟩
  · have h1 : (startW w).heap[w.heap.size + 1]? = some (.cells #[.nilFunc, .map none, .map none, .pointer none, .int .i32 0, .int .u32 0, .map none, .map (some w.heap.size), .map none, .int .u64 0, .map none, .map none, .map none] 43 (0, 0)) := by
      refine kept_alloc (kept_alloc (kept_alloc (kept_alloc ?_)))
      have := heap_alloc_new (w.alloc (.map #[] 0)) (.cells #[.nilFunc, .map none, .map none, .pointer none, .int .i32 0, .int .u32 0, .map none, .map (some w.heap.size), .map none, .int .u64 0, .map none, .map none, .map none] 43)
      simpa using this
    exact cell_row h1
  · have h0 : Mp Ybaf.prog 9 (w.alloc (.map #[] 0)) w.heap.size 0 (fun _ => none) := Mp.new w
    have b0 : Below (w.alloc (.map #[] 0)).heap.size (w.alloc (.map #[] 0)) (startW w) :=
      (((((Below.refl _ _).alloc (Nat.le_refl _) _).alloc (by simp) _).alloc (by simp <;> omega) _).alloc (by simp <;> omega) _).alloc (by simp <;> omega) _
    exact h0.below b0
  · simp only [Arr, startW]
    refine kept_alloc (kept_alloc (kept_alloc ?_))
    have := heap_alloc_new ((w.alloc (.map #[] 0)).alloc (.cells #[.nilFunc, .map none, .map none, .pointer none, .int .i32 0, .int .u32 0, .map none, .map (some w.heap.size), .map none, .int .u64 0, .map none, .map none, .map none] 43)) (.cells #[.bool false, .bool false, .bool false, .bool false] 44)
    simpa using this
  · simp only [Arr, startW]
    refine kept_alloc (kept_alloc ?_)
    have := heap_alloc_new (((w.alloc (.map #[] 0)).alloc (.cells #[.nilFunc, .map none, .map none, .pointer none, .int .i32 0, .int .u32 0, .map none, .map (some w.heap.size), .map none, .int .u64 0, .map none, .map none, .map none] 43)).alloc (.cells #[.bool false, .bool false, .bool false, .bool false] 44)) (.cells #[.bool false, .bool false, .bool false, .bool false] 44)
    simpa using this
  · simp only [Arr, startW]
    refine kept_alloc ?_
    have := heap_alloc_new ((((w.alloc (.map #[] 0)).alloc (.cells #[.nilFunc, .map none, .map none, .pointer none, .int .i32 0, .int .u32 0, .map none, .map (some w.heap.size), .map none, .int .u64 0, .map none, .map none, .map none] 43)).alloc (.cells #[.bool false, .bool false, .bool false, .bool false] 44)).alloc (.cells #[.bool false, .bool false, .bool false, .bool false] 44)) (.cells #[.pointer none, .pointer none, .pointer none, .pointer none] 46)
    simpa using this
  · simp only [Arr, startW]
    have := heap_alloc_new (((((w.alloc (.map #[] 0)).alloc (.cells #[.nilFunc, .map none, .map none, .pointer none, .int .i32 0, .int .u32 0, .map none, .map (some w.heap.size), .map none, .int .u64 0, .map none, .map none, .map none] 43)).alloc (.cells #[.bool false, .bool false, .bool false, .bool false] 44)).alloc (.cells #[.bool false, .bool false, .bool false, .bool false] 44)).alloc (.cells #[.pointer none, .pointer none, .pointer none, .pointer none] 46)) (.cells #[.string ⟨#[]⟩, .string ⟨#[]⟩, .string ⟨#[]⟩, .string ⟨#[]⟩] 47)
    simpa using this

end Go.Proofs.YbulkettaFmt.B
