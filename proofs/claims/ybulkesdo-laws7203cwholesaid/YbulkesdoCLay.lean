/-
  LawS7203CWhole: the memory that the law lays, piece by piece; each piece stands as long as its own blocks do.
-/
import Derived.Test.YbulkesdoCRows
namespace Go.Proofs.Ybulkesdo.C
open Go.RowKit Go.Maps Go.WideMaps Classical

/-- The list's row. -/
abbrev lrow (I : Nat) (mo mv : Option Nat) : Array Value := #[.slice none 0 0, .pointer none, .pointer none, .map (some I), .nilFunc, .nilFunc, .map none, .map none, .map mo, .map mv, .map none]
/-- The key of element j's bucket. -/
abbrev bkey (c : Nat → Int) (A : Nat → ByteArray) (j : Nat) : Value := idV (c j / 256) (A j)

section
variable {c : Nat → Int} {A : Nat → ByteArray} {S : Nat → Bool} {B0 : Nat} {f fm : Value → Option Value} {nd p lo hi : Nat → Nat} {w w' : World}

/-! ### moves and moved -/
structure Mov (B0 km Mo Mv : Nat) (c : Nat → Int) (A : Nat → ByteArray) (fm : Value → Option Value) (w : World) : Prop where
  lo : B0 ≤ Mo
  ne : Mo < Mv
  mp : Mp Yba.prog 60 w Mo km fm
  st : St w Mo
  fm : ∀ x, (fm x).isSome = true ↔ ∃ i, i < km ∧ x = idV (c i) (A i)
  mq : Mp Yba.prog 60 w Mv 0 (fun _ => none)
theorem Mov.kept {km Mo Mv : Nat} (h : Mov B0 km Mo Mv c A fm w) (h1 : w'.heap[Mo]? = w.heap[Mo]?) (h2 : w'.heap[Mv]? = w.heap[Mv]?) : Mov B0 km Mo Mv c A fm w' :=
  ⟨h.lo, h.ne, h.mp.kept h1, h.st.kept h1, h.fm, h.mq.kept h2⟩
theorem Mov.step {km Mo Mv : Nat} (h : Mov B0 km Mo Mv c A fm w) {l : Lit} (hk : keyOf Yba.prog 60 (idV (c km) (A km)) = some l) (hnew : ∀ i, i < km → c i ≠ c km) (v : Value) :
    ∃ w', (Instr.mapUpdate 41 (.map (some Mo)) (idV (c km) (A km)) v).run Yba.prog w = .ok () w' ∧ But Mo w w' ∧ Mov B0 (km + 1) Mo Mv c A (putAt fm (idV (c km) (A km)) v) w' := by
  obtain ⟨w', hrun, hbut, hmp⟩ := h.mp.put keyed Yba.underlying41 hk v
  have hne := h.ne
  have hf : (fm (idV (c km) (A km))).isSome = false := by
    cases hs : (fm (idV (c km) (A km))).isSome with
    | false => rfl
    | true =>
      obtain ⟨i, hi, he⟩ := (h.fm _).1 hs
      have : c km = c i := by simp at he; exact he.1
      exact absurd this.symm (hnew i hi)
  rw [hf] at hmp
  refine ⟨w', hrun, hbut, h.lo, h.ne, hmp, h.st.put h.mp keyed Yba.underlying41 hk v hrun, fun x => ?_, h.mq.but hbut (by omega)⟩
  by_cases hx : x = idV (c km) (A km)
  · subst hx
    rw [putAt_same]
    exact ⟨fun _ => ⟨km, by omega, rfl⟩, fun _ => rfl⟩
  · rw [putAt_other _ _ hx, h.fm]
    constructor
    · rintro ⟨i, h1, h2⟩
      exact ⟨i, by omega, h2⟩
    · rintro ⟨i, h1, h2⟩
      by_cases hi : i = km
      · subst hi; exact absurd h2 hx
      · exact ⟨i, by omega, h2⟩

/-! ### Nodes -/
def Nodes (B0 kn : Nat) (c : Nat → Int) (A : Nat → ByteArray) (nd p : Nat → Nat) (w : World) : Prop := ∀ j, j < kn → w.heap[nd j]? = some (.cells (nodeRow (c j) (A j) (p j)) 66 (0, 0)) ∧ B0 ≤ nd j
theorem Nodes.kept {kn : Nat} (h : Nodes B0 kn c A nd p w) (hk : ∀ j, j < kn → w'.heap[nd j]? = w.heap[nd j]?) : Nodes B0 kn c A nd p w' := fun j hj => ⟨(hk j hj).trans (h j hj).1, (h j hj).2⟩

/-! ### Places -/
def Places (B0 kp : Nat) (S : Nat → Bool) (p lo hi : Nat → Nat) (w : World) : Prop := ∀ j, j < kp → Placed (S j) (p j) (lo j) (hi j) w ∧ B0 ≤ lo j ∧ hi j ≤ w.heap.size
theorem Places.kept {kp : Nat} (h : Places B0 kp S p lo hi w) (hs : w.heap.size ≤ w'.heap.size) (hk : ∀ j, j < kp → ∀ b, lo j ≤ b → b < hi j → w'.heap[b]? = w.heap[b]?) : Places B0 kp S p lo hi w' :=
  fun j hj => ⟨(h j hj).1.kept (hk j hj), (h j hj).2.1, Nat.le_trans (h j hj).2.2 hs⟩

/-! ### The two slices -/
def Ids (N ki GI : Nat) (c : Nat → Int) (A : Nat → ByteArray) (w : World) : Prop := ∃ co, w.heap[GI]? = some (.cells co 60 (0, 0)) ∧ co.size = N * 2 ∧ ∀ j, j < ki → co[j * 2]? = some (.int .u64 (c j)) ∧ co[j * 2 + 1]? = some (.string (A j))
theorem Ids.kept {N ki GI : Nat} (h : Ids N ki GI c A w) (hk : w'.heap[GI]? = w.heap[GI]?) : Ids N ki GI c A w' := by
  obtain ⟨co, h1, h2⟩ := h
  exact ⟨co, hk.trans h1, h2⟩
theorem Ids.room {N ki GI : Nat} (h : Ids N ki GI c A w) {j : Nat} (hj : j < N) : (∃ v, w.cell? ⟨GI, j * 2, none⟩ = some v) ∧ (∃ v, w.cell? ⟨GI, j * 2 + 1, none⟩ = some v) ∧ ∀ i, w.frozen? ⟨GI, i, none⟩ = false := by
  obtain ⟨co, h1, h2, _⟩ := h
  refine ⟨⟨co[j * 2], ?_⟩, ⟨co[j * 2 + 1], ?_⟩, fun i => free_row h1⟩
  · rw [cell_row h1]; simp
  · rw [cell_row h1]; simp
theorem Ids.read {N ki GI : Nat} (h : Ids N ki GI c A w) {j : Nat} (hj : j < ki) : w.cell? ⟨GI, j * 2, none⟩ = some (.int .u64 (c j)) ∧ w.cell? ⟨GI, j * 2 + 1, none⟩ = some (.string (A j)) := by
  obtain ⟨co, h1, h2, h3⟩ := h
  rw [cell_row h1, cell_row h1]
  exact h3 j hj
theorem Ids.step {N ki GI : Nat} (h : Ids N ki GI c A w) (hk : ki < N) : Ids N (ki + 1) GI c A ((w.setCell ⟨GI, ki * 2, none⟩ (.int .u64 (c ki))).setCell ⟨GI, ki * 2 + 1, none⟩ (.string (A ki))) := by
  obtain ⟨co, h1, h2, h3⟩ := h
  refine ⟨_, heap_put _ _ (heap_put w _ h1), by simp [h2], fun j hj => ?_⟩
  by_cases hjk : j = ki
  · subst hjk
    refine ⟨?_, ?_⟩
    · rw [Array.getElem?_setIfInBounds_ne (by omega), Array.getElem?_setIfInBounds_self_of_lt (by omega)]
    · rw [Array.getElem?_setIfInBounds_self_of_lt (by simp; omega)]
  · obtain ⟨a, b⟩ := h3 j (by omega)
    refine ⟨?_, ?_⟩
    · rw [Array.getElem?_setIfInBounds_ne (by omega), Array.getElem?_setIfInBounds_ne (by omega)]; exact a
    · rw [Array.getElem?_setIfInBounds_ne (by omega), Array.getElem?_setIfInBounds_ne (by omega)]; exact b

def Shw (N ks GS : Nat) (S : Nat → Bool) (w : World) : Prop := ∃ co, w.heap[GS]? = some (.cells co 4 (0, 0)) ∧ co.size = N ∧ ∀ j, j < ks → co[j]? = some (.bool (S j))
theorem Shw.kept {N ks GS : Nat} (h : Shw N ks GS S w) (hk : w'.heap[GS]? = w.heap[GS]?) : Shw N ks GS S w' := by
  obtain ⟨co, h1, h2⟩ := h
  exact ⟨co, hk.trans h1, h2⟩
theorem Shw.room {N ks GS : Nat} (h : Shw N ks GS S w) {j : Nat} (hj : j < N) : (∃ v, w.cell? ⟨GS, j, none⟩ = some v) ∧ ∀ i, w.frozen? ⟨GS, i, none⟩ = false := by
  obtain ⟨co, h1, h2, _⟩ := h
  exact ⟨⟨co[j], by rw [cell_row h1]; simp⟩, fun i => free_row h1⟩
theorem Shw.read {N ks GS : Nat} (h : Shw N ks GS S w) {j : Nat} (hj : j < ks) : w.cell? ⟨GS, j, none⟩ = some (.bool (S j)) := by
  obtain ⟨co, h1, h2, h3⟩ := h
  rw [cell_row h1]
  exact h3 j hj
theorem Shw.step {N ks GS : Nat} (h : Shw N ks GS S w) (hk : ks < N) : Shw N (ks + 1) GS S (w.setCell ⟨GS, ks, none⟩ (.bool (S ks))) := by
  obtain ⟨co, h1, h2, h3⟩ := h
  refine ⟨_, heap_put w _ h1, by simp [h2], fun j hj => ?_⟩
  by_cases hjk : j = ks
  · subst hjk
    rw [Array.getElem?_setIfInBounds_self_of_lt (by omega)]
  · rw [Array.getElem?_setIfInBounds_ne (by omega)]
    exact h3 j (by omega)

/-! ### The list as mustKeep wants it -/
theorem lst_of {I LB Mo Mv N ni : Nat} (hN : N ≤ 65536) (hrow : w.heap[LB]? = some (.cells (lrow I (some Mo) (some Mv)) 54 (0, 0))) (hix : Mp Yba.prog 60 w I ni f) (hrows : Rows N (bkey c A) nd B0 f w) (hmov : Mov B0 N Mo Mv c A fm w) (hnd : Nodes B0 N c A nd p w) (hpl : Places B0 N S p lo hi w)
    (hinc : ∀ i j, i < j → j < N → c i < c j) (h0 : ∀ i, i < N → 0 ≤ c i ∧ c i < 18446744073709551616) (hsz : ∀ i, (A i).size ≤ Go.maxLen) : Lst LB I Mo Mv N ni f fm c A S nd p lo hi w := by
  refine ⟨by rw [cell_row hrow]; rfl, hmov.mp, hmov.st, hmov.fm, fun i hi => ?_, fun i hi => ⟨(hpl i hi).1, (hpl i hi).2.2⟩, fun i j hi hj he => ?_⟩
  · have hn := hnd i hi
    exact ⟨(h0 i hi).1, (h0 i hi).2, hsz i, by rw [cell_row hrow]; rfl, by rw [cell_row hrow]; rfl, hix, hmov.mq, hrows.bucket hN (fun j hj => (hnd j hj).1) hinc hi, by rw [cell_row hn.1]; rfl, by rw [cell_row hn.1]; rfl, by rw [cell_row hn.1]; rfl⟩
  · rcases Nat.lt_trichotomy i j with h1 | h1 | h1
    · have := hinc i j h1 hj; omega
    · exact h1
    · have := hinc j i h1 hi; omega
end

end Go.Proofs.Ybulkesdo.C
