/-
  LawS7203CWhole: the memory once k elements are laid, and one element more.
-/
import Derived.Test.YbulkesdoCLay
namespace Go.Proofs.Ybulkesdo.C
open Go.RowKit Go.Maps Go.WideMaps Classical

/-- The counter once k elements are laid. -/
def cAt (s : Int) (gap : Nat → Int) : Nat → Int
  | 0 => s
  | k + 1 => cAt s gap k + (1 + gap k % 5)
theorem cAt_le (s : Int) (gap : Nat → Int) : ∀ k, s ≤ cAt s gap k ∧ cAt s gap k ≤ s + 5 * k
  | 0 => by simp [cAt]
  | k + 1 => by have := cAt_le s gap k; simp only [cAt]; omega
theorem cAt_lt (s : Int) (gap : Nat → Int) {i j : Nat} (h : i < j) : cAt s gap i < cAt s gap j := by
  induction j with
  | zero => omega
  | succ j ih =>
    simp only [cAt]
    by_cases hij : i = j
    · subst hij; omega
    · have := ih (by omega); omega

theorem info60 : (Yba.prog.info? 60).map (fun i => (i.zero, i.size, i.bytes)) = some (some (.agg #[.int .u64 0, .string ByteArray.empty]), 2, 24) := by kernel_rfl
theorem info4 : (Yba.prog.info? 4).map (fun i => (i.zero, i.size, i.bytes)) = some (some (.bool false), 1, 1) := by kernel_rfl
theorem make_ids (N : Nat) (hN : N ≤ 65536) : ∃ Z : Array Value, Z.size = N * 2 ∧ ∀ w : World, (Instr.makeSlice 50 (.int .i64 N) (.int .i64 N)).run Yba.prog w = .ok (.slice (some ⟨w.heap.size, 0, none⟩) N N) (w.alloc (.cells Z 60)) := by
  obtain ⟨i0, hi, he⟩ := Option.map_eq_some_iff.1 info60
  simp only [Prod.mk.injEq] at he
  obtain ⟨hz0, hz1, hz2⟩ := he
  refine ⟨madeCells (Value.agg #[.int .u64 0, .string ByteArray.empty]).cells (N * 2), size_madeCells _ _, fun w => ?_⟩
  have := run_make (P := Yba.prog) w 50 60 i0 _ Yba.underlying50 hi hz0 .i64 .i64 N N (by omega) (Int.le_refl _) (by rw [hz2]; omega) (by omega)
  rw [this, hz1]
  simp
theorem make_shows (N : Nat) (hN : N ≤ 65536) : ∃ Z : Array Value, Z.size = N ∧ ∀ w : World, (Instr.makeSlice 55 (.int .i64 N) (.int .i64 N)).run Yba.prog w = .ok (.slice (some ⟨w.heap.size, 0, none⟩) N N) (w.alloc (.cells Z 4)) := by
  obtain ⟨i0, hi, he⟩ := Option.map_eq_some_iff.1 info4
  simp only [Prod.mk.injEq] at he
  obtain ⟨hz0, hz1, hz2⟩ := he
  refine ⟨madeCells (Value.bool false).cells (N * 1), by rw [size_madeCells]; omega, fun w => ?_⟩
  have := run_make (P := Yba.prog) w 55 4 i0 _ Yba.underlying55 hi hz0 .i64 .i64 N N (by omega) (Int.le_refl _) (by rw [hz2]; omega) (by omega)
  rw [this, hz1]
  simp
theorem make42 (w : World) : (Instr.makeMap 42 none).run Yba.prog w = .ok (.map (some w.heap.size)) (w.alloc (.map #[] 0)) := by kernel_rfl
theorem make41 (w : World) : (Instr.makeMap 41 none).run Yba.prog w = .ok (.map (some w.heap.size)) (w.alloc (.map #[] 0)) := by kernel_rfl
theorem make47 (w : World) : (Instr.makeMap 47 none).run Yba.prog w = .ok (.map (some w.heap.size)) (w.alloc (.map #[] 0)) := by kernel_rfl

/-- The world once k elements are laid: the blocks W0 .. W0 + 3 are the index, the list, ids, shows. -/
structure LayD (W0 k N : Nat) (c : Nat → Int) (A : Nat → ByteArray) (S : Nat → Bool) (f fm : Value → Option Value) (ni : Nat) (mo mv : Option Nat) (nd p lo hi : Nat → Nat) (w : World) : Prop where
  sz : W0 + 1 + 1 + 1 + 1 ≤ w.heap.size
  ix : Mp Yba.prog 60 w W0 ni f
  ist : St w W0
  rows : Rows k (bkey c A) nd (W0 + 1 + 1 + 1 + 1) f w
  row : w.heap[W0 + 1]? = some (.cells (lrow W0 mo mv) 54 (0, 0))
  mov : (k = 0 ∧ mo = none ∧ mv = none) ∨ ∃ Mo Mv, mo = some Mo ∧ mv = some Mv ∧ Mov (W0 + 1 + 1 + 1 + 1) k Mo Mv c A fm w
  node : Nodes (W0 + 1 + 1 + 1 + 1) k c A nd p w
  pl : Places (W0 + 1 + 1 + 1 + 1) k S p lo hi w
  ids : Ids N k (W0 + 1 + 1) c A w
  shw : Shw N k (W0 + 1 + 1 + 1) S w
  sepR : ∀ j, j < k → ∀ key v g, f key = some v → v.ownBlock = some g → g < lo j ∨ hi j ≤ g
  sepM : ∀ j, j < k → ∀ M, mo = some M ∨ mv = some M → M < lo j ∨ hi j ≤ M
  non : k = 0 → mo = none

theorem lay_start (w : World) (N : Nat) (c : Nat → Int) (A : Nat → ByteArray) (S : Nat → Bool) (ZI ZS : Array Value) (h1 : ZI.size = N * 2) (h2 : ZS.size = N) :
    Below w.heap.size w ((((w.alloc (.map #[] 0)).alloc (.cells (lrow w.heap.size none none) 54)).alloc (.cells ZI 60)).alloc (.cells ZS 4)) ∧
    LayD w.heap.size 0 N c A S (fun _ => none) (fun _ => none) 0 none none (fun _ => 0) (fun _ => 0) (fun _ => 0) (fun _ => 0) ((((w.alloc (.map #[] 0)).alloc (.cells (lrow w.heap.size none none) 54)).alloc (.cells ZI 60)).alloc (.cells ZS 4)) := by
  obtain ⟨r1, r2, r3, r4, r5⟩ := three_new w (.map #[] 0) (.cells (lrow w.heap.size none none) 54) (.cells ZI 60)
  generalize ((w.alloc (.map #[] 0)).alloc (.cells (lrow w.heap.size none none) 54)).alloc (.cells ZI 60) = w3 at *
  obtain ⟨q1, q2, q3⟩ := one_new w3 (.cells ZS 4)
  have bl : ∀ {b : Nat} {o : Obj}, w3.heap[b]? = some o → (w3.alloc (.cells ZS 4)).heap[b]? = some o := fun h => (q2.block _ (Array.getElem?_eq_some_iff.1 h).1).trans h
  refine ⟨r4.trans (q2.mono r4.size), ?_⟩
  rw [r5] at q1
  refine ⟨by rw [q3, r5]; omega, ⟨#[], 0, bl r1, rfl, by simp, by simp, fun s v h => by cases h⟩, ⟨#[], 0, bl r1, by simp, by simp⟩, ⟨fun key => .inl ⟨rfl, fun j hj => absurd hj (by omega)⟩, fun _ _ _ _ _ h => by cases h⟩, bl r2, .inl ⟨rfl, rfl, rfl⟩, fun j hj => absurd hj (by omega), fun j hj => absurd hj (by omega), ⟨ZI, bl r3, h1, fun j hj => absurd hj (by omega)⟩, ⟨ZS, q1, h2, fun j hj => absurd hj (by omega)⟩, fun j hj => absurd hj (by omega), fun j hj => absurd hj (by omega), fun _ => rfl⟩

theorem Rows.kept43 {k : Nat} {K : Nat → Value} {nd : Nat → Nat} {B0 : Nat} {f : Value → Option Value} {w w' : World} (h : Rows k K nd B0 f w) (hk : ∀ b cur, B0 ≤ b → w.heap[b]? = some (.cells cur 43 (0, 0)) → w'.heap[b]? = w.heap[b]?) : Rows k K nd B0 f w' := by
  refine ⟨fun key => ?_, h.sep⟩
  rcases h.row key with h1 | ⟨v, js, h1, h2, h3⟩
  · exact .inl h1
  · refine .inr ⟨v, js, h1, ⟨h2.1, ?_⟩, h3⟩
    rcases h2.2 with hn | ⟨g, cap, cur, e1, e2, e3, e4⟩
    · exact .inl hn
    · exact .inr ⟨g, cap, cur, e1, e2, (hk g cur e2 e3).trans e3, e4⟩

theorem lay_step {W0 k N ND GX : Nat} {c : Nat → Int} {A : Nat → ByteArray} {S : Nat → Bool} {f fm : Value → Option Value} {ni n10 : Nat} {mo mv : Option Nat} {nd p lo hi : Nat → Nat} {w wr w3 w4 w5 w6 w7 w10 w11 w12 w13 : World} {cx : Int} {ak : ByteArray} {sk : Bool} {pk : Nat} {v0 v' : Value} {Mo Mv : Nat} {fm2 : Value → Option Value}
    (hcx : c k = cx) (hA : A k = ak) (hS : S k = sk)
    (hb : Below W0 w wr) (hl : LayD W0 k N c A S f fm ni mo mv nd p lo hi wr)
    (hb3 : Below wr.heap.size wr w3) (hs43 : wr.heap.size + 1 + 1 ≤ ND) (hpd : Placed sk pk (wr.heap.size + 1 + 1) ND w3)
    (os4 : w4.os = w3.os ∧ w4.tape = w3.tape ∧ w4.output = w3.output) (far4 : ∀ b, b ≠ W0 + 1 + 1 → b ≠ W0 + 1 + 1 + 1 → w4.heap[b]? = w3.heap[b]?) (sz4 : w4.heap.size = ND)
    (ids4 : Ids N (k + 1) (W0 + 1 + 1) c A w4) (shw4 : Shw N (k + 1) (W0 + 1 + 1 + 1) S w4)
    (b5 : Below w4.heap.size w4 w5) (nr5 : w5.heap[ND]? = some (.cells (nodeRow cx ak pk) 66 (0, 0))) (sz5 : w5.heap.size = ND + 1)
    (b6 : Below w5.heap.size w5 w6) (sz6 : w6.heap.size = ND + 1 + 1) (b7 : Below w6.heap.size w6 w7) (sz7 : w7.heap.size = ND + 1 + 1 + 1)
    (turn : ∀ b, b < ND + 1 + 1 + 1 → b ≠ W0 → some b ≠ v0.ownBlock → w10.heap[b]? = w7.heap[b]?)
    (hown0 : ∀ g, v0.ownBlock = some g → W0 + 1 + 1 + 1 + 1 ≤ g ∧ (∃ cur, w7.heap[g]? = some (.cells cur 43 (0, 0))) ∧ (∃ v, f (idV (cx / 256) ak) = some v ∧ v.ownBlock = some g))
    (os10 : w10.os = w7.os ∧ w10.tape = w7.tape ∧ w10.output = w7.output) (sz10 : ND + 1 + 1 + 1 ≤ w10.heap.size)
    (rows10 : Rows (k + 1) (bkey c A) (fun j => if j = k then ND else nd j) (W0 + 1 + 1 + 1 + 1) (putAt f (idV (cx / 256) ak) v') w10) (ix10 : Mp Yba.prog 60 w10 W0 n10 (putAt f (idV (cx / 256) ak) v')) (ist10 : St w10 W0)
    (blk9 : v'.ownBlock = v0.ownBlock ∨ v'.ownBlock = some GX) (hGX : GX = ND + 1 + 1 + 1)
    (row11 : w11.heap[W0 + 1]? = some (.cells (lrow W0 (some Mo) (some Mv)) 54 (0, 0))) (mv11 : ∃ es cl, w11.heap[Mo]? = some (.map es cl)) (sz11 : w10.heap.size ≤ w11.heap.size) (old11 : ∀ b, b < w10.heap.size → b ≠ W0 + 1 → w11.heap[b]? = w10.heap[b]?)
    (os11 : w11.os = w10.os) (tp11 : w11.tape = w10.tape) (out11 : w11.output = w10.output)
    (hcase : (mo = some Mo ∧ mv = some Mv ∧ Mo < wr.heap.size ∧ Mv < wr.heap.size) ∨ (k = 0 ∧ w10.heap.size ≤ Mo ∧ w10.heap.size ≤ Mv))
    (b12 : Below w11.heap.size w11 w12) (but13 : But Mo w12 w13) (mv13 : Mov (W0 + 1 + 1 + 1 + 1) (k + 1) Mo Mv c A fm2 w13) :
    Below W0 w w13 ∧ LayD W0 (k + 1) N c A S (putAt f (idV (cx / 256) ak) v') fm2 n10 (some Mo) (some Mv) (fun j => if j = k then ND else nd j) (fun j => if j = k then pk else p j) (fun j => if j = k then wr.heap.size + 1 + 1 else lo j) (fun j => if j = k then ND else hi j) w13 := by
  have hMo := mv13.lo
  have hMne := mv13.ne
  have szr := hl.sz
  have szr3 := hb3.size
  have hu := b12.size
  have hu13 := but13.size
  have hlt : ∀ key v g, f key = some v → v.ownBlock = some g → g < wr.heap.size := fun key v g h2 h3 => by
    rcases hl.rows.row key with ⟨e, _⟩ | ⟨v2, js2, e, e2, _⟩
    · rw [e] at h2; cases h2
    · rw [e] at h2
      obtain rfl : v2 = v := by simpa using h2
      exact (e2.lt g h3).2
  have hg0 : ∀ g, v0.ownBlock = some g → W0 + 1 + 1 + 1 + 1 ≤ g ∧ g < wr.heap.size := fun g hg => by
    obtain ⟨h1, _, v, h2, h3⟩ := hown0 g hg
    exact ⟨h1, hlt _ v g h2 h3⟩
  have a13 : ∀ b, b < w11.heap.size → b ≠ Mo → w13.heap[b]? = w11.heap[b]? := fun b h1 h2 => (but13.block b h2).trans (b12.block b h1)
  have a7 : ∀ b, b < ND + 1 + 1 + 1 → b ≠ W0 → b ≠ W0 + 1 → some b ≠ v0.ownBlock → b ≠ Mo → w13.heap[b]? = w7.heap[b]? := fun b h1 h2 h3 h4 h5 =>
    (a13 b (by omega) h5).trans ((old11 b (by omega) h3).trans (turn b h1 h2 h4))
  have a4 : ∀ b, b < ND → b ≠ W0 → b ≠ W0 + 1 → some b ≠ v0.ownBlock → b ≠ Mo → w13.heap[b]? = w4.heap[b]? := fun b h1 h2 h3 h6 h7 =>
    (a7 b (by omega) h2 h3 h6 h7).trans ((b7.block b (by omega)).trans ((b6.block b (by omega)).trans (b5.block b (by omega))))
  have a3 : ∀ b, b < ND → b ≠ W0 → b ≠ W0 + 1 → b ≠ W0 + 1 + 1 → b ≠ W0 + 1 + 1 + 1 → some b ≠ v0.ownBlock → b ≠ Mo → w13.heap[b]? = w3.heap[b]? := fun b h1 h2 h3 h4 h5 h6 h7 =>
    (a4 b h1 h2 h3 h6 h7).trans (far4 b h4 h5)
  have ar : ∀ b, b < wr.heap.size → b ≠ W0 → b ≠ W0 + 1 → b ≠ W0 + 1 + 1 → b ≠ W0 + 1 + 1 + 1 → some b ≠ v0.ownBlock → b ≠ Mo → w13.heap[b]? = wr.heap[b]? := fun b h1 h2 h3 h4 h5 h6 h7 => (a3 b (by omega) h2 h3 h4 h5 h6 h7).trans (hb3.block b h1)
  have low : ∀ b, b < W0 + 1 + 1 + 1 + 1 → some b ≠ v0.ownBlock := fun b hb he => by have := (hg0 b he.symm).1; omega
  have low2 : ∀ b, wr.heap.size ≤ b → some b ≠ v0.ownBlock := fun b hb he => by have := (hg0 b he.symm).2; omega
  have noMo : ∀ b, b < w10.heap.size → b ≠ W0 + 1 → ∀ co t, w10.heap[b]? = some (.cells co t (0, 0)) → b ≠ Mo := fun b h1 h2 co t h3 he => by
    subst he
    have e1 := old11 b h1 h2
    obtain ⟨es, cl, e2⟩ := mv11
    rw [e1, h3] at e2
    cases e2
  -- an old row of another type
  have e7r : ∀ b, b < wr.heap.size → b ≠ W0 + 1 + 1 → b ≠ W0 + 1 + 1 + 1 → w7.heap[b]? = wr.heap[b]? := fun b h1 h2 h3 => (b7.block b (by omega)).trans ((b6.block b (by omega)).trans ((b5.block b (by omega)).trans ((far4 b h2 h3).trans (hb3.block b h1))))
  have noRow : ∀ b co t, b < wr.heap.size → W0 + 1 + 1 + 1 + 1 ≤ b → wr.heap[b]? = some (.cells co t (0, 0)) → t ≠ 43 → some b ≠ v0.ownBlock := fun b co t h1 h2 h3 h4 he => by
    obtain ⟨_, ⟨cur, hc⟩, _⟩ := hown0 b he.symm
    rw [e7r b h1 (by omega) (by omega), h3] at hc
    simp at hc
    exact h4 hc.2
  refine ⟨⟨?_, ?_, ?_, ?_, fun b hbb => ?_⟩, ?_⟩
  · rw [but13.os, b12.os, os11, os10.1, b7.os, b6.os, b5.os, os4.1, hb3.os, hb.os]
  · rw [but13.tape, b12.tape, tp11, os10.2.1, b7.tape, b6.tape, b5.tape, os4.2.1, hb3.tape, hb.tape]
  · rw [but13.output, b12.output, out11, os10.2.2, b7.output, b6.output, b5.output, os4.2.2, hb3.output, hb.output]
  · have := hb.size
    omega
  · exact (ar b (by omega) (by omega) (by omega) (by omega) (by omega) (low b (by omega)) (by omega)).trans (hb.block b hbb)
  refine ⟨by omega, ix10.kept ((a13 W0 (by omega) (by omega)).trans (old11 W0 (by omega) (by omega))), ist10.kept ((a13 W0 (by omega) (by omega)).trans (old11 W0 (by omega) (by omega))), ?_, (a13 (W0 + 1) (by omega) (by omega)).trans row11, .inr ⟨Mo, Mv, rfl, rfl, mv13⟩, ?_, ?_, ?_, ?_, ?_, ?_, fun h => by omega⟩
  · refine rows10.kept43 fun b cur h1 h2 => ?_
    have h3 := (Array.getElem?_eq_some_iff.1 h2).1
    exact (a13 b (by omega) (noMo b h3 (by omega) _ _ h2)).trans (old11 b h3 (by omega))
  · intro j hj
    by_cases hjk : j = k
    · subst hjk
      simp only [if_true, hcx, hA]
      have e7 : w7.heap[ND]? = some (.cells (nodeRow cx ak pk) 66 (0, 0)) := (b7.block ND (by omega)).trans ((b6.block ND (by omega)).trans nr5)
      have e10 : w10.heap[ND]? = some (.cells (nodeRow cx ak pk) 66 (0, 0)) := (turn ND (by omega) (by omega) (low2 _ (by omega))).trans e7
      exact ⟨(a7 ND (by omega) (by omega) (by omega) (low2 _ (by omega)) (noMo ND (by omega) (by omega) _ _ e10)).trans e7, by omega⟩
    · simp only [if_neg hjk]
      obtain ⟨h1, h2⟩ := hl.node j (by omega)
      have h3 := (Array.getElem?_eq_some_iff.1 h1).1
      have h4 := noRow (nd j) _ _ h3 h2 h1 (by decide)
      have e10 : w10.heap[nd j]? = some (.cells (nodeRow (c j) (A j) (p j)) 66 (0, 0)) := (turn (nd j) (by omega) (by omega) h4).trans ((e7r _ h3 (by omega) (by omega)).trans h1)
      exact ⟨(ar (nd j) h3 (by omega) (by omega) (by omega) (by omega) h4 (noMo (nd j) (by omega) (by omega) _ _ e10)).trans h1, h2⟩
  · intro j hj
    by_cases hjk : j = k
    · subst hjk
      simp only [if_true, hS]
      refine ⟨hpd.kept fun b h1 h2 => a3 b h2 (by omega) (by omega) (by omega) (by omega) (low2 _ (by omega)) ?_, by omega, by omega⟩
      rcases hcase with ⟨_, _, h, _⟩ | ⟨_, h, _⟩ <;> omega
    · simp only [if_neg hjk]
      obtain ⟨h1, h2, h3⟩ := hl.pl j (by omega)
      refine ⟨h1.kept fun b h4 h5 => ar b (by omega) (by omega) (by omega) (by omega) (by omega) ?_ ?_, h2, by omega⟩
      · intro he
        obtain ⟨_, _, v, e1, e2⟩ := hown0 b he.symm
        have := hl.sepR j (by omega) _ v b e1 e2
        omega
      · rcases hcase with ⟨h, _, h', _⟩ | ⟨_, h, _⟩
        · have := hl.sepM j (by omega) Mo (.inl h)
          omega
        · omega
  · exact ids4.kept (a4 _ (by omega) (by omega) (by omega) (low _ (by omega)) (by omega))
  · exact shw4.kept (a4 _ (by omega) (by omega) (by omega) (low _ (by omega)) (by omega))
  · intro j hj key v g h1 h2
    -- where the row lies
    have hg : (f key = some v ∧ key ≠ idV (cx / 256) ak) ∨ v = v' := by
      by_cases hk : key = idV (cx / 256) ak
      · subst hk
        rw [putAt_same] at h1
        simp at h1
        exact .inr h1.symm
      · rw [putAt_other _ _ hk] at h1
        exact .inl ⟨h1, hk⟩
    have hg2 : (∃ key v, f key = some v ∧ v.ownBlock = some g) ∨ g = ND + 1 + 1 + 1 := by
      rcases hg with ⟨e, _⟩ | rfl
      · exact .inl ⟨key, v, e, h2⟩
      · rcases blk9 with e | e
        · obtain ⟨_, _, v2, e1, e2⟩ := hown0 g (by rw [← e]; exact h2)
          exact .inl ⟨_, v2, e1, e2⟩
        · rw [h2] at e
          simp at e
          exact .inr (by omega)
    by_cases hjk : j = k
    · simp only [if_pos hjk]
      rcases hg2 with ⟨key2, v2, e1, e2⟩ | e
      · have := hlt key2 v2 g e1 e2
        omega
      · omega
    · simp only [if_neg hjk]
      obtain ⟨_, q2, q3⟩ := hl.pl j (by omega)
      rcases hg2 with ⟨key2, v2, e1, e2⟩ | e
      · exact hl.sepR j (by omega) key2 v2 g e1 e2
      · omega
  · intro j hj M hM
    have hM' : M = Mo ∨ M = Mv := by
      rcases hM with h | h
      · simp at h; exact .inl h.symm
      · simp at h; exact .inr h.symm
    by_cases hjk : j = k
    · simp only [if_pos hjk]
      rcases hcase with ⟨_, _, h, h'⟩ | ⟨_, h, h'⟩ <;> rcases hM' with rfl | rfl <;> omega
    · simp only [if_neg hjk]
      rcases hcase with ⟨e1, e2, h, h'⟩ | ⟨h0, h, h'⟩
      · rcases hM' with rfl | rfl
        · exact hl.sepM j (by omega) M (.inl e1)
        · exact hl.sepM j (by omega) M (.inr e2)
      · omega

end Go.Proofs.Ybulkesdo.C
