/-
  LawS7281AWhole: the two nodes in memory, said of worlds.
-/
import Derived.Test.YbulkettoASame
namespace Go.Proofs.Ybulketto
open Go.RowKit

theorem cell_far (w : World) {b o b' o' : Nat} (v : Value) (h : b' ≠ b ∨ o' ≠ o) : (w.setCell ⟨b, o, none⟩ v).cell? ⟨b', o', none⟩ = w.cell? ⟨b', o', none⟩ := by
  by_cases hb : b' = b
  · subst hb
    have ho : o' ≠ o := by rcases h with h | h; exact absurd rfl h; exact h
    unfold World.cell? World.setCell
    simp only [Array.getElem?_modify, if_true]
    cases hh : w.heap[b']? with
    | none => simp
    | some x =>
      cases x <;> simp
      rw [Array.getElem?_setIfInBounds_ne (by omega)]
  · exact World.cell?_of_block (Below.heap_setCell w ⟨b, o, none⟩ v b' hb)
theorem cell_at (w : World) {b o : Nat} (v : Value) (h : ∃ x, w.cell? ⟨b, o, none⟩ = some x) : (w.setCell ⟨b, o, none⟩ v).cell? ⟨b, o, none⟩ = some v := by
  obtain ⟨x, h⟩ := h
  unfold World.cell? at h
  unfold World.cell? World.setCell
  simp only [Array.getElem?_modify, if_true]
  cases hh : w.heap[b]? with
  | none => simp [hh] at h
  | some y =>
    cases y <;> simp [hh] at h ⊢
    rename_i c e fr
    obtain ⟨hl, _⟩ := Array.getElem?_eq_some_iff.1 h
    rw [Array.getElem?_setIfInBounds_self_of_lt hl]
theorem cell_there (w : World) {b o b' o' : Nat} (v : Value) (h : ∃ x, w.cell? ⟨b', o', none⟩ = some x) : ∃ x, (w.setCell ⟨b, o, none⟩ v).cell? ⟨b', o', none⟩ = some x := by
  by_cases hs : b' = b ∧ o' = o
  · obtain ⟨rfl, rfl⟩ := hs
    exact ⟨v, cell_at w v h⟩
  · rw [cell_far w v (by omega)]
    exact h
theorem frozen_set (w : World) (a x : Addr) (v : Value) : (w.setCell x v).frozen? a = w.frozen? a := by
  unfold World.frozen? World.setCell
  simp only [Array.getElem?_modify]
  by_cases hb : x.block = a.block
  · simp only [hb, if_true]
    cases hh : w.heap[a.block]? with
    | none => simp
    | some y => cases y <;> simp
  · simp [hb]

/-- The two nodes and the four boxes. -/
structure Fresh (w : World) (B0 B1 B2 B3 F T : Nat) (U1 N1 U2 N2 : Nat → Nat) (wx : World) : Prop where
  bel : Below w.heap.size w wx
  hF : w.heap.size ≤ F ∧ F ≠ B0 ∧ F ≠ B1 ∧ F ≠ B2 ∧ F ≠ B3
  hT : w.heap.size ≤ T ∧ T ≠ B0 ∧ T ≠ B1 ∧ T ≠ B2 ∧ T ≠ B3
  b0 : ∀ k, k < 4 → wx.cell? ⟨B0, k, none⟩ = some (.float .f64 (U1 k))
  b1 : ∀ k, k < 4 → wx.cell? ⟨B1, k, none⟩ = some (.int .u16 (N1 k : Int))
  b2 : ∀ k, k < 4 → wx.cell? ⟨B2, k, none⟩ = some (.float .f64 (U2 k))
  b3 : ∀ k, k < 4 → wx.cell? ⟨B3, k, none⟩ = some (.int .u16 (N2 k : Int))
  cF : ∀ k, k < 31 → ∃ v, wx.cell? ⟨F, k, none⟩ = some v
  cT : ∀ k, k < 31 → ∃ v, wx.cell? ⟨T, k, none⟩ = some v
  fF : ∀ k, wx.frozen? ⟨F, k, none⟩ = false
  fT : ∀ k, wx.frozen? ⟨T, k, none⟩ = false

section
variable {w wx : World} {B0 B1 B2 B3 F T : Nat} {U1 N1 U2 N2 : Nat → Nat}
theorem Fresh.set (h : Fresh w B0 B1 B2 B3 F T U1 N1 U2 N2 wx) {b : Nat} (hb : b = F ∨ b = T) (o : Nat) (v : Value) : Fresh w B0 B1 B2 B3 F T U1 N1 U2 N2 (wx.setCell ⟨b, o, none⟩ v) := by
  have hb4 : w.heap.size ≤ b ∧ b ≠ B0 ∧ b ≠ B1 ∧ b ≠ B2 ∧ b ≠ B3 := by rcases hb with rfl | rfl; exact h.hF; exact h.hT
  refine ⟨h.bel.setCell (by show w.heap.size ≤ b; omega) _, h.hF, h.hT, ?_, ?_, ?_, ?_, ?_, ?_, ?_, ?_⟩
  · intro k hk; rw [cell_far _ _ (by omega)]; exact h.b0 k hk
  · intro k hk; rw [cell_far _ _ (by omega)]; exact h.b1 k hk
  · intro k hk; rw [cell_far _ _ (by omega)]; exact h.b2 k hk
  · intro k hk; rw [cell_far _ _ (by omega)]; exact h.b3 k hk
  · intro k hk; exact cell_there _ _ (h.cF k hk)
  · intro k hk; exact cell_there _ _ (h.cT k hk)
  · intro k; rw [frozen_set]; exact h.fF k
  · intro k; rw [frozen_set]; exact h.fT k
/-- Nothing old is written: a draw, a new block, a callee that makes memory. -/
theorem Fresh.below {wy : World} (h : Fresh w B0 B1 B2 B3 F T U1 N1 U2 N2 wx) (hb : Below wx.heap.size wx wy) : Fresh w B0 B1 B2 B3 F T U1 N1 U2 N2 wy := by
  refine ⟨h.bel.trans (hb.mono h.bel.size), h.hF, h.hT, fun k hk => cell_later hb (h.b0 k hk), fun k hk => cell_later hb (h.b1 k hk), fun k hk => cell_later hb (h.b2 k hk), fun k hk => cell_later hb (h.b3 k hk), ?_, ?_, ?_, ?_⟩
  · intro k hk; obtain ⟨v, hv⟩ := h.cF k hk; exact ⟨v, cell_later hb hv⟩
  · intro k hk; obtain ⟨v, hv⟩ := h.cT k hk; exact ⟨v, cell_later hb hv⟩
  · intro k; obtain ⟨v, hv⟩ := h.cF 0 (by omega); rw [hb.frozen (p := ⟨F, k, none⟩) (World.block_lt_of_cell? wx ⟨F, 0, none⟩ hv)]; exact h.fF k
  · intro k; obtain ⟨v, hv⟩ := h.cT 0 (by omega); rw [hb.frozen (p := ⟨T, k, none⟩) (World.block_lt_of_cell? wx ⟨T, 0, none⟩ hv)]; exact h.fT k

theorem row_cell {w : World} {g j : Nat} {co : Array Value} {e : TypeId} (h1 : w.heap[g]? = some (.cells co e (0, 0))) : w.cell? ⟨g, j, none⟩ = co[j]? := by
  simp [World.cell?, h1]
theorem row_free {w : World} {g j : Nat} {co : Array Value} {e : TypeId} (h1 : w.heap[g]? = some (.cells co e (0, 0))) : w.frozen? ⟨g, j, none⟩ = false := by
  simp [World.frozen?, h1]

theorem heap6 (w : World) (a b c d e f : Obj) : (((((((w.alloc a).alloc b).alloc c).alloc d).alloc e).alloc f).heap[w.heap.size]? = some a) ∧ ((((((w.alloc a).alloc b).alloc c).alloc d).alloc e).alloc f).heap[w.heap.size + 1]? = some b ∧
    ((((((w.alloc a).alloc b).alloc c).alloc d).alloc e).alloc f).heap[w.heap.size + 2]? = some c ∧ ((((((w.alloc a).alloc b).alloc c).alloc d).alloc e).alloc f).heap[w.heap.size + 3]? = some d ∧
    ((((((w.alloc a).alloc b).alloc c).alloc d).alloc e).alloc f).heap[w.heap.size + 4]? = some e ∧ ((((((w.alloc a).alloc b).alloc c).alloc d).alloc e).alloc f).heap[w.heap.size + 5]? = some f := by
  have e0 : ((((((w.alloc a).alloc b).alloc c).alloc d).alloc e).alloc f).heap = (((((w.heap.push a).push b).push c).push d).push e).push f := rfl
  rw [e0]
  refine ⟨?_, ?_, ?_, ?_, ?_, ?_⟩ <;> simp only [Array.getElem?_push, Array.size_push] <;> (repeat (first | rw [if_pos trivial] | rw [if_neg (by omega)] | rw [if_pos (by omega)]))

theorem fresh_start (w : World) (U1 N1 U2 N2 : Nat → Nat) (Z Z' : Array Value) (hZ : Z.size = 31) (hZ' : Z'.size = 31) (t : Nat) (ht : t = 4 ∨ t = 5) :
    Fresh w w.heap.size (w.heap.size + 1) (w.heap.size + 2) (w.heap.size + 3) (w.heap.size + 4) (w.heap.size + t) U1 N1 U2 N2 ((((((w.alloc (.cells #[.float .f64 (U1 0), .float .f64 (U1 1), .float .f64 (U1 2), .float .f64 (U1 3)] 23)).alloc (.cells #[.int .u16 (N1 0 : Int), .int .u16 (N1 1 : Int), .int .u16 (N1 2 : Int), .int .u16 (N1 3 : Int)] 25)).alloc
      (.cells #[.float .f64 (U2 0), .float .f64 (U2 1), .float .f64 (U2 2), .float .f64 (U2 3)] 23)).alloc (.cells #[.int .u16 (N2 0 : Int), .int .u16 (N2 1 : Int), .int .u16 (N2 2 : Int), .int .u16 (N2 3 : Int)] 25)).alloc (.cells Z 37)).alloc (.cells Z' 37)) := by
  obtain ⟨h0, h1, h2, h3, h4, h5⟩ := heap6 w (.cells #[.float .f64 (U1 0), .float .f64 (U1 1), .float .f64 (U1 2), .float .f64 (U1 3)] 23) (.cells #[.int .u16 (N1 0 : Int), .int .u16 (N1 1 : Int), .int .u16 (N1 2 : Int), .int .u16 (N1 3 : Int)] 25)
    (.cells #[.float .f64 (U2 0), .float .f64 (U2 1), .float .f64 (U2 2), .float .f64 (U2 3)] 23) (.cells #[.int .u16 (N2 0 : Int), .int .u16 (N2 1 : Int), .int .u16 (N2 2 : Int), .int .u16 (N2 3 : Int)] 25) (.cells Z 37) (.cells Z' 37)
  have bel : Below w.heap.size w ((((((w.alloc (.cells #[.float .f64 (U1 0), .float .f64 (U1 1), .float .f64 (U1 2), .float .f64 (U1 3)] 23)).alloc (.cells #[.int .u16 (N1 0 : Int), .int .u16 (N1 1 : Int), .int .u16 (N1 2 : Int), .int .u16 (N1 3 : Int)] 25)).alloc
      (.cells #[.float .f64 (U2 0), .float .f64 (U2 1), .float .f64 (U2 2), .float .f64 (U2 3)] 23)).alloc (.cells #[.int .u16 (N2 0 : Int), .int .u16 (N2 1 : Int), .int .u16 (N2 2 : Int), .int .u16 (N2 3 : Int)] 25)).alloc (.cells Z 37)).alloc (.cells Z' 37)) :=
    ((((((Below.refl _ _).alloc (Nat.le_refl _) _).alloc (by simp) _).alloc (by simp; omega) _).alloc (by simp; omega) _).alloc (by simp; omega) _).alloc (by simp; omega) _
  refine ⟨bel, by omega, by omega, ?_, ?_, ?_, ?_, ?_, ?_, ?_, ?_⟩
  · intro k hk; rw [row_cell h0]; revert k; exact lt4 rfl rfl rfl rfl
  · intro k hk; rw [row_cell h1]; revert k; exact lt4 rfl rfl rfl rfl
  · intro k hk; rw [row_cell h2]; revert k; exact lt4 rfl rfl rfl rfl
  · intro k hk; rw [row_cell h3]; revert k; exact lt4 rfl rfl rfl rfl
  · intro k hk; rw [row_cell h4]; exact ⟨Z[k], by simp⟩
  · intro k hk
    rcases ht with rfl | rfl
    · rw [row_cell h4]; exact ⟨Z[k], by simp⟩
    · rw [row_cell h5]; exact ⟨Z'[k], by simp⟩
  · intro k; exact row_free h4
  · intro k
    rcases ht with rfl | rfl
    · exact row_free h4
    · exact row_free h5

/-- .. the first k flows made. -/
structure Made (w : World) (B0 B1 B2 B3 F T cap1 cap2 : Nat) (U1 N1 U2 N2 : Nat → Nat) (k k' : Nat) (wx : World) : Prop where
  fresh : Fresh w B0 B1 B2 B3 F T U1 N1 U2 N2 wx
  c1 : wx.cell? ⟨F, 2, none⟩ = some (.float .f64 cap1)
  u1 : ∀ j, j < 4 → wx.cell? ⟨F, 2 + 5 + j, none⟩ = some (.float .f64 (U1 j))
  c2 : wx.cell? ⟨T, 15, none⟩ = some (.float .f64 cap2)
  u2 : ∀ j, j < 4 → wx.cell? ⟨T, 15 + 5 + j, none⟩ = some (.float .f64 (U2 j))
  f1 : ∀ j, j < k → ∃ p c, wx.cell? ⟨F, 2 + 1 + j, none⟩ = some (.slice p (N1 j) c)
  f2 : ∀ j, j < k' → ∃ p c, wx.cell? ⟨T, 15 + 1 + j, none⟩ = some (.slice p (N2 j) c)

theorem made_start {cap1 cap2 : Nat} (h : Fresh w B0 B1 B2 B3 F T U1 N1 U2 N2 wx) : Made w B0 B1 B2 B3 F T cap1 cap2 U1 N1 U2 N2 0 0
    ((((((((((wx.setCell ⟨F, 2, none⟩ (.float .f64 cap1)).setCell ⟨F, 7, none⟩ (.float .f64 (U1 0))).setCell ⟨F, 8, none⟩ (.float .f64 (U1 1))).setCell ⟨F, 9, none⟩ (.float .f64 (U1 2))).setCell ⟨F, 10, none⟩ (.float .f64 (U1 3))).setCell
      ⟨T, 15, none⟩ (.float .f64 cap2)).setCell ⟨T, 20, none⟩ (.float .f64 (U2 0))).setCell ⟨T, 21, none⟩ (.float .f64 (U2 1))).setCell ⟨T, 22, none⟩ (.float .f64 (U2 2))).setCell ⟨T, 23, none⟩ (.float .f64 (U2 3))) := by
  refine ⟨(((((((((h.set (.inl rfl) _ _).set (.inl rfl) _ _).set (.inl rfl) _ _).set (.inl rfl) _ _).set (.inl rfl) _ _).set (.inr rfl) _ _).set (.inr rfl) _ _).set (.inr rfl) _ _).set (.inr rfl) _ _).set (.inr rfl) _ _, ?_, ?_, ?_, ?_, fun j hj => absurd hj (by omega), fun j hj => absurd hj (by omega)⟩
  · rw [cell_far _ _ (by omega), cell_far _ _ (by omega), cell_far _ _ (by omega), cell_far _ _ (by omega), cell_far _ _ (by omega), cell_far _ _ (by omega), cell_far _ _ (by omega), cell_far _ _ (by omega), cell_far _ _ (by omega)]
    exact cell_at _ _ (h.cF 2 (by omega))
  · have t1 := h.set (.inl rfl) 2 (.float .f64 cap1)
    have t2 := t1.set (.inl rfl) 7 (.float .f64 (U1 0))
    have t3 := t2.set (.inl rfl) 8 (.float .f64 (U1 1))
    have t4 := t3.set (.inl rfl) 9 (.float .f64 (U1 2))
    refine lt4 ?_ ?_ ?_ ?_
    · rw [cell_far _ _ (by omega), cell_far _ _ (by omega), cell_far _ _ (by omega), cell_far _ _ (by omega), cell_far _ _ (by omega), cell_far _ _ (by omega), cell_far _ _ (by omega), cell_far _ _ (by omega)]
      exact cell_at _ _ (t1.cF 7 (by omega))
    · rw [cell_far _ _ (by omega), cell_far _ _ (by omega), cell_far _ _ (by omega), cell_far _ _ (by omega), cell_far _ _ (by omega), cell_far _ _ (by omega), cell_far _ _ (by omega)]
      exact cell_at _ _ (t2.cF 8 (by omega))
    · rw [cell_far _ _ (by omega), cell_far _ _ (by omega), cell_far _ _ (by omega), cell_far _ _ (by omega), cell_far _ _ (by omega), cell_far _ _ (by omega)]
      exact cell_at _ _ (t3.cF 9 (by omega))
    · rw [cell_far _ _ (by omega), cell_far _ _ (by omega), cell_far _ _ (by omega), cell_far _ _ (by omega), cell_far _ _ (by omega)]
      exact cell_at _ _ (t4.cF 10 (by omega))
  · have t5 := ((((h.set (.inl rfl) 2 (.float .f64 cap1)).set (.inl rfl) 7 (.float .f64 (U1 0))).set (.inl rfl) 8 (.float .f64 (U1 1))).set (.inl rfl) 9 (.float .f64 (U1 2))).set (.inl rfl) 10 (.float .f64 (U1 3))
    rw [cell_far _ _ (by omega), cell_far _ _ (by omega), cell_far _ _ (by omega), cell_far _ _ (by omega)]
    exact cell_at _ _ (t5.cT 15 (by omega))
  · have t6 := (((((h.set (.inl rfl) 2 (.float .f64 cap1)).set (.inl rfl) 7 (.float .f64 (U1 0))).set (.inl rfl) 8 (.float .f64 (U1 1))).set (.inl rfl) 9 (.float .f64 (U1 2))).set (.inl rfl) 10 (.float .f64 (U1 3))).set (.inr rfl) 15 (.float .f64 cap2)
    have t7 := t6.set (.inr rfl) 20 (.float .f64 (U2 0))
    have t8 := t7.set (.inr rfl) 21 (.float .f64 (U2 1))
    have t9 := t8.set (.inr rfl) 22 (.float .f64 (U2 2))
    refine lt4 ?_ ?_ ?_ ?_
    · rw [cell_far _ _ (by omega), cell_far _ _ (by omega), cell_far _ _ (by omega)]
      exact cell_at _ _ (t6.cT 20 (by omega))
    · rw [cell_far _ _ (by omega), cell_far _ _ (by omega)]
      exact cell_at _ _ (t7.cT 21 (by omega))
    · rw [cell_far _ _ (by omega)]
      exact cell_at _ _ (t8.cT 22 (by omega))
    · exact cell_at _ _ (t9.cT 23 (by omega))

theorem Made.below {cap1 cap2 k k' : Nat} {wy : World} (h : Made w B0 B1 B2 B3 F T cap1 cap2 U1 N1 U2 N2 k k' wx) (hb : Below wx.heap.size wx wy) : Made w B0 B1 B2 B3 F T cap1 cap2 U1 N1 U2 N2 k k' wy :=
  ⟨h.fresh.below hb, cell_later hb h.c1, fun j hj => cell_later hb (h.u1 j hj), cell_later hb h.c2, fun j hj => cell_later hb (h.u2 j hj), fun j hj => let ⟨p, c, hp⟩ := h.f1 j hj; ⟨p, c, cell_later hb hp⟩, fun j hj => let ⟨p, c, hp⟩ := h.f2 j hj; ⟨p, c, cell_later hb hp⟩⟩

theorem Made.put1 {cap1 cap2 k k' : Nat} (h : Made w B0 B1 B2 B3 F T cap1 cap2 U1 N1 U2 N2 k k' wx) (hk : k < 4) (_hk' : k' ≤ 4) (p : Option Addr) (c : Nat) : Made w B0 B1 B2 B3 F T cap1 cap2 U1 N1 U2 N2 (k + 1) k' (wx.setCell ⟨F, 3 + k, none⟩ (.slice p (N1 k) c)) := by
  refine ⟨h.fresh.set (.inl rfl) _ _, ?_, ?_, ?_, ?_, ?_, ?_⟩
  · rw [cell_far _ _ (by omega)]; exact h.c1
  · intro j hj; rw [cell_far _ _ (by omega)]; exact h.u1 j hj
  · rw [cell_far _ _ (by omega)]; exact h.c2
  · intro j hj; rw [cell_far _ _ (by omega)]; exact h.u2 j hj
  · intro j hj
    by_cases hjk : j = k
    · subst hjk
      exact ⟨p, c, by rw [show 2 + 1 + j = 3 + j from by omega]; exact cell_at _ _ (h.fresh.cF _ (by omega))⟩
    · rw [cell_far _ _ (by omega)]; exact h.f1 j (by omega)
  · intro j hj; rw [cell_far _ _ (by omega)]; exact h.f2 j hj
theorem Made.put2 {cap1 cap2 k k' : Nat} (h : Made w B0 B1 B2 B3 F T cap1 cap2 U1 N1 U2 N2 k k' wx) (hk : k ≤ 4) (hk' : k' < 4) (p : Option Addr) (c : Nat) : Made w B0 B1 B2 B3 F T cap1 cap2 U1 N1 U2 N2 k (k' + 1) (wx.setCell ⟨T, 16 + k', none⟩ (.slice p (N2 k') c)) := by
  refine ⟨h.fresh.set (.inr rfl) _ _, ?_, ?_, ?_, ?_, ?_, ?_⟩
  · rw [cell_far _ _ (by omega)]; exact h.c1
  · intro j hj; rw [cell_far _ _ (by omega)]; exact h.u1 j hj
  · rw [cell_far _ _ (by omega)]; exact h.c2
  · intro j hj; rw [cell_far _ _ (by omega)]; exact h.u2 j hj
  · intro j hj; rw [cell_far _ _ (by omega)]; exact h.f1 j hj
  · intro j hj
    by_cases hjk : j = k'
    · subst hjk
      exact ⟨p, c, by rw [show 15 + 1 + j = 16 + j from by omega]; exact cell_at _ _ (h.fresh.cT _ (by omega))⟩
    · rw [cell_far _ _ (by omega)]; exact h.f2 j (by omega)

end

theorem Yba.info38 : (Yba.prog.info? 38).map (fun i => (i.zero, i.size, i.bytes)) = some (some (.pointer none), 1, 8) := by kernel_rfl
theorem make_flows (n : Nat) (hn : n ≤ 65535) : ∃ Z : Array Value, ∀ w : World, (Instr.makeSlice 30 (.int .i64 n) (.int .i64 n)).run Yba.prog w = .ok (.slice (some ⟨w.heap.size, 0, none⟩) n n) (w.alloc (.cells Z 38)) := by
  obtain ⟨i0, hi, hz0, hz1, hz2⟩ := info_parts Yba.info38
  refine ⟨madeCells (Value.pointer none).cells (n * 1), fun w => ?_⟩
  have := run_make (P := Yba.prog) w 30 38 i0 _ Yba.underlying30 hi hz0 .i64 .i64 n n (by omega) (Int.le_refl _) (by rw [hz2]; omega) (by omega)
  rw [this, hz1]
  simp

end Go.Proofs.Ybulketto
