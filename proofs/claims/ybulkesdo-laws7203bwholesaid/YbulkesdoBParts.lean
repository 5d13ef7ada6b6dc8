/-
  LawS7203BWhole: what the build loop leaves, said of worlds: no walk here but Clone's.
-/
import Derived.Test.YbulkesdoBGet
namespace Go.Proofs.Ybulkesdo
open Go.RowKit Go.Lib

/-- What is known of a member's value, a byte slice that came in. -/
def Src (w : World) (p : Option Addr) (n : Nat) (xs : List Int) : Prop :=
  xs.length = n ∧ n ≤ 140737488355328 ∧ ((p = none ∧ n = 0) ∨ ∃ a, p = some a ∧ ∀ i, i < n → w.cell? (a.add i) = some (.int .u8 (xs.getD i 0)))

/-- A byte slice of the call's own, in a block from 'base' on. -/
def Mine (base : Nat) (w : World) (q : Option Addr) (n : Nat) (xs : List Int) : Prop :=
  xs.length = n ∧ (0 < n → ∃ B, base ≤ B ∧ q = some ⟨B, 0, none⟩ ∧ ∀ i, i < n → w.cell? ⟨B, i, none⟩ = some (.int .u8 (xs.getD i 0)))

theorem Mine.bytes {base : Nat} {w : World} {q : Option Addr} {n : Nat} {xs : List Int} (h : Mine base w q n xs) : BytesAt w q n xs := by
  refine ⟨h.1, fun hn => ?_⟩
  obtain ⟨B, _, rfl, hc⟩ := h.2 hn
  exact ⟨B, 0, rfl, fun i hi => by simpa using hc i hi⟩

theorem Mine.kept {base : Nat} {w w' : World} {q : Option Addr} {n : Nat} {xs : List Int} (h : Mine base w q n xs)
    (k : ∀ B, base ≤ B → B < w.heap.size → w'.heap[B]? = w.heap[B]?) : Mine base w' q n xs := by
  refine ⟨h.1, fun hn => ?_⟩
  obtain ⟨B, hB, rfl, hc⟩ := h.2 hn
  refine ⟨B, hB, rfl, fun i hi => ?_⟩
  rw [World.cell?_of_block (w := w) (k B hB (World.block_lt_of_cell? w _ (hc i hi)))]
  exact hc i hi

theorem Mine.low {base base' : Nat} {w : World} {q : Option Addr} {n : Nat} {xs : List Int} (h : Mine base w q n xs) (hb : base' ≤ base) : Mine base' w q n xs :=
  ⟨h.1, fun hn => let ⟨B, hB, r⟩ := h.2 hn; ⟨B, Nat.le_trans hb hB, r⟩⟩

theorem Src.below {w w' : World} {p : Option Addr} {n : Nat} {xs : List Int} (h : Src w p n xs) (hb : Below w.heap.size w w') : Src w' p n xs := by
  obtain ⟨h1, h2, h3⟩ := h
  refine ⟨h1, h2, ?_⟩
  rcases h3 with h3 | ⟨a, rfl, hc⟩
  · exact .inl h3
  · exact .inr ⟨a, rfl, fun i hi => (hb.cell (World.block_lt_of_cell? w _ (hc i hi))).trans (hc i hi)⟩

theorem clone_any (p : Option Addr) (n c : Nat) (xs : List Int) (w : World) (h : Src w p n xs) :
    Calls Yba.prog 5 #[.slice p n c] w fun e w' => ∃ q d, e = .returned (.slice q n d) ∧ Mine w.heap.size w' q n xs ∧ q.isNone = p.isNone ∧ Below w.heap.size w w' := by
  obtain ⟨h1, h2, h3⟩ := h
  rcases h3 with ⟨rfl, rfl⟩ | ⟨a, rfl, hc⟩
  · refine (clone_nil 0 c w).mono ?_
    rintro e w' ⟨rfl, rfl⟩
    exact ⟨none, 0, rfl, ⟨h1, fun h => absurd h (by omega)⟩, rfl, Below.refl _ _⟩
  · refine (clone_at a n c xs w h1 h2 hc).mono ?_
    rintro e w' ⟨v', rfl, hown, hne, hb⟩
    rcases hown.2 with ⟨rfl, _⟩ | ⟨g, cap, cur, rfl, hg, hh, hnc, hcm, hcs, htk⟩
    · exact absurd rfl hne
    · refine ⟨_, cap, rfl, ⟨h1, fun _ => ⟨g, hg, rfl, fun i hi => ?_⟩⟩, rfl, hb⟩
      have := hown.cellAt i (by omega)
      rw [this]
      simp [List.getElem?_eq_getElem (show i < xs.length by omega), List.getD]

/-- Member j of the block g, as it is read. -/
def Memb (N g : Nat) (w : World) (j : Nat) (s : ByteArray) (q : Option Addr) (n d : Nat) (xs : List Int) (p : Option Addr) : Prop :=
  w.cell? ⟨g, j * 2, none⟩ = some (.string s) ∧ w.cell? ⟨g, j * 2 + 1, none⟩ = some (.slice q n d) ∧ q.isNone = p.isNone ∧ Mine N w q n xs

theorem Mine.below {base : Nat} {w w' : World} {q : Option Addr} {n : Nat} {xs : List Int} (h : Mine base w q n xs) (hb : Below w.heap.size w w') : Mine base w' q n xs := h.kept fun B _ hB => hb.block B hB

theorem Memb.below {N g : Nat} {w w' : World} {j : Nat} {s : ByteArray} {q : Option Addr} {n d : Nat} {xs : List Int} {p : Option Addr} (h : Memb N g w j s q n d xs p) (hb : Below w.heap.size w w') : Memb N g w' j s q n d xs p :=
  ⟨(hb.cell (World.block_lt_of_cell? w _ h.1)).trans h.1, (hb.cell (World.block_lt_of_cell? w _ h.2.1)).trans h.2.1, h.2.2.1, h.2.2.2.below hb⟩

/-- The block g holds 'len' members; the first k of them are filled. -/
def Filled (N len k : Nat) (S : Nat → ByteArray) (p : Nat → Option Addr) (m : Nat → Nat) (xs : Nat → List Int) (g : Nat) (w : World) : Prop :=
  ∃ co, w.heap[g]? = some (.cells co 31 (0, 0)) ∧ co.size = len * 2 ∧
    ∀ j, j < k → co[j * 2]? = some (.string (S j)) ∧ ∃ q d, co[j * 2 + 1]? = some (.slice q (m j) d) ∧ q.isNone = (p j).isNone ∧ Mine N w q (m j) (xs j)

section
variable {N len k g : Nat} {S : Nat → ByteArray} {p : Nat → Option Addr} {m : Nat → Nat} {xs : Nat → List Int} {w w' : World}

theorem Filled.kept (h : Filled N len k S p m xs g w) (hg : w'.heap[g]? = w.heap[g]?) (hk : ∀ B, N ≤ B → B < w.heap.size → w'.heap[B]? = w.heap[B]?) : Filled N len k S p m xs g w' := by
  obtain ⟨co, h1, h2, h3⟩ := h
  refine ⟨co, hg.trans h1, h2, fun j hj => ?_⟩
  obtain ⟨a, q, d, b, c, e⟩ := h3 j hj
  exact ⟨a, q, d, b, c, e.kept hk⟩

theorem Filled.lt (h : Filled N len k S p m xs g w) : g < w.heap.size := by
  obtain ⟨co, h1, _⟩ := h
  exact (Array.getElem?_eq_some_iff.1 h1).1

theorem cell_row {w : World} {g j : Nat} {co : Array Value} {e : TypeId} (h1 : w.heap[g]? = some (.cells co e (0, 0))) : w.cell? ⟨g, j, none⟩ = co[j]? := by
  simp [World.cell?, h1]
theorem free_row {w : World} {g j : Nat} {co : Array Value} {e : TypeId} (h1 : w.heap[g]? = some (.cells co e (0, 0))) : w.frozen? ⟨g, j, none⟩ = false := by
  simp [World.frozen?, h1]

/-- The k-th member is there to be written. -/
theorem Filled.room (h : Filled N len k S p m xs g w) {j : Nat} (hj : j < len) :
    (∃ v, w.cell? ⟨g, j * 2, none⟩ = some v) ∧ (∃ v, w.cell? ⟨g, j * 2 + 1, none⟩ = some v) ∧ w.frozen? ⟨g, j * 2, none⟩ = false ∧ w.frozen? ⟨g, j * 2 + 1, none⟩ = false := by
  obtain ⟨co, h1, h2, _⟩ := h
  refine ⟨⟨co[j * 2], ?_⟩, ⟨co[j * 2 + 1], ?_⟩, free_row h1, free_row h1⟩
  · rw [cell_row h1]; simp
  · rw [cell_row h1]; simp

/-- What a call that only makes memory leaves of a filled block. -/
theorem Filled.below (h : Filled N len k S p m xs g w) (hb : Below w.heap.size w w') : Filled N len k S p m xs g w' :=
  h.kept (hb.block g h.lt) (fun B _ hB => hb.block B hB)

theorem heap_put (w : World) {g j : Nat} {co : Array Value} {e : TypeId} (v : Value) (h : w.heap[g]? = some (.cells co e (0, 0))) : (w.setCell ⟨g, j, none⟩ v).heap[g]? = some (.cells (co.setIfInBounds j v) e (0, 0)) := by
  simp [World.setCell, Array.getElem?_modify, h]

/-- The k-th member is written. -/
theorem Filled.step (h : Filled N len k S p m xs g w) (hgN : g < N) (q : Option Addr) (d : Nat) (hq : q.isNone = (p k).isNone) (hm : Mine N w q (m k) (xs k)) (hk : k < len) :
    Filled N len (k + 1) S p m xs g ((w.setCell ⟨g, k * 2, none⟩ (.string (S k))).setCell ⟨g, k * 2 + 1, none⟩ (.slice q (m k) d)) := by
  have hfar : ∀ B, N ≤ B → B < w.heap.size → ((w.setCell ⟨g, k * 2, none⟩ (.string (S k))).setCell ⟨g, k * 2 + 1, none⟩ (.slice q (m k) d)).heap[B]? = w.heap[B]? := by
    intro B hB _
    rw [Below.heap_setCell _ _ _ _ (by show B ≠ g; omega), Below.heap_setCell _ _ _ _ (by show B ≠ g; omega)]
  obtain ⟨co, h1, h2, h3⟩ := h
  refine ⟨_, heap_put _ _ (heap_put w _ h1), by simp [h2], fun j hj => ?_⟩
  by_cases hjk : j = k
  · subst hjk
    refine ⟨?_, q, d, ?_, hq, hm.kept hfar⟩
    · rw [Array.getElem?_setIfInBounds_ne (by omega), Array.getElem?_setIfInBounds_self_of_lt (by omega)]
    · rw [Array.getElem?_setIfInBounds_self_of_lt (by simp; omega)]
  · obtain ⟨a, q', d', b, c, e⟩ := h3 j (by omega)
    refine ⟨?_, q', d', ?_, c, e.kept hfar⟩
    · rw [Array.getElem?_setIfInBounds_ne (by omega), Array.getElem?_setIfInBounds_ne (by omega)]; exact a
    · rw [Array.getElem?_setIfInBounds_ne (by omega), Array.getElem?_setIfInBounds_ne (by omega)]; exact b

/-- The other block, while g is written. -/
theorem Filled.other {g' : Nat} (h : Filled N len k S p m xs g w) (hgN : g' < N) (hne : g ≠ g') (j j' : Nat) (v v' : Value) :
    Filled N len k S p m xs g ((w.setCell ⟨g', j, none⟩ v).setCell ⟨g', j', none⟩ v') := by
  refine h.kept ?_ fun B hB _ => ?_
  · rw [Below.heap_setCell _ _ _ _ hne, Below.heap_setCell _ _ _ _ hne]
  · rw [Below.heap_setCell _ _ _ _ (by show B ≠ g'; omega), Below.heap_setCell _ _ _ _ (by show B ≠ g'; omega)]

/-- What the finished block gives to whoever reads it. -/
theorem Filled.read (h : Filled N len len S p m xs g w) : ∃ (q : Nat → Option Addr) (d : Nat → Nat), q len = none ∧ d len = 0 ∧ ∀ j, j < len →
    Memb N g w j (S j) (q j) (m j) (d j) (xs j) (p j) := by
  classical
  obtain ⟨co, h1, h2, h3⟩ := h
  have ex : ∀ j, ∃ qd : Option Addr × Nat, (j < len → co[j * 2]? = some (.string (S j)) ∧ co[j * 2 + 1]? = some (.slice qd.1 (m j) qd.2) ∧ qd.1.isNone = (p j).isNone ∧ Mine N w qd.1 (m j) (xs j)) ∧ (j = len → qd = (none, 0)) := by
    intro j
    by_cases hj : j < len
    · obtain ⟨a, q, d, b, c, e⟩ := h3 j hj
      exact ⟨(q, d), fun _ => ⟨a, b, c, e⟩, fun h => absurd h (by omega)⟩
    · exact ⟨(none, 0), fun h => absurd h hj, fun _ => rfl⟩
  refine ⟨fun j => (Classical.choose (ex j)).1, fun j => (Classical.choose (ex j)).2, ?_, ?_, fun j hj => ?_⟩
  · dsimp only; rw [(Classical.choose_spec (ex len)).2 rfl]
  · dsimp only; rw [(Classical.choose_spec (ex len)).2 rfl]
  · obtain ⟨a, b, c, e⟩ := (Classical.choose_spec (ex j)).1 hj
    exact ⟨(cell_row h1).trans a, (cell_row h1).trans b, c, e⟩

theorem Filled.start0 (w : World) (Z : Array Value) (hZ : Z.size = len * 2) : Filled N len 0 S p m xs w.heap.size ((w.alloc (.cells Z 31)).alloc (.cells Z 31)) :=
  ⟨Z, (Below.heap_alloc _ _ _ (by simp)).trans (heap_alloc_new w _), hZ, fun j hj => absurd hj (by omega)⟩
theorem Filled.start1 (w : World) (Z : Array Value) (hZ : Z.size = len * 2) : Filled N len 0 S p m xs (w.heap.size + 1) ((w.alloc (.cells Z 31)).alloc (.cells Z 31)) := by
  refine ⟨Z, ?_, hZ, fun j hj => absurd hj (by omega)⟩
  have := heap_alloc_new (w.alloc (.cells Z 31)) (.cells Z 31)
  simpa using this

end
/-- The first index at which f says yes, or n. -/
theorem first_yes (f : Nat → Bool) : ∀ n, ∃ i, i ≤ n ∧ (i < n → f i = true) ∧ ∀ j, j < i → f j = false
  | 0 => ⟨0, Nat.le_refl _, fun h => absurd h (by omega), fun j hj => absurd hj (by omega)⟩
  | n + 1 => by
    obtain ⟨i, h1, h2, h3⟩ := first_yes f n
    by_cases hi : i < n
    · exact ⟨i, by omega, fun _ => h2 hi, h3⟩
    · obtain rfl : i = n := by omega
      by_cases hf : f i = true
      · exact ⟨i, by omega, fun _ => hf, h3⟩
      · refine ⟨i + 1, Nat.le_refl _, fun h => absurd h (by omega), fun j hj => ?_⟩
        by_cases hji : j = i
        · subst hji; simpa using hf
        · exact h3 j (by omega)

theorem BytesAt.drewN {w : World} {p : Option Addr} {n : Nat} {xs : List Int} (h : BytesAt w p n xs) (k : Nat) : BytesAt (w.drewN k) p n xs := h
theorem below_drN {B : Nat} {a w : World} (h : Below B a w) (n : Nat) : Below B a (w.drewN n) := ⟨h.os, h.tape, h.output, h.size, h.block⟩
theorem hid {P : Prop} (h : P) : Hid P := h
theorem undrew {w w1 : World} (h : Below w.drew.heap.size w.drew w1) : Below w.heap.size w w1 := ⟨h.os, h.tape, h.output, h.size, h.block⟩
theorem far {w : World} {x a : Addr} (v : Value) (h : a.block ≠ x.block) : (w.setCell x v).cell? a = w.cell? a := World.cell?_of_block (Below.heap_setCell w x v a.block h)
end Go.Proofs.Ybulkesdo
