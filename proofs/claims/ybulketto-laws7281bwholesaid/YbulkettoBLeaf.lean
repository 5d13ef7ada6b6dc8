/-
  LawS7281BWhole: the contracts of zzs7281bat (10), the clock (12), lasts (41), drop (43).
-/
import Derived.Test.YbulkettoBTime
import Derived.Test.YbulkettoCParts
import Derived.Test.YbulkettoBMap
namespace Go.Proofs.Ybulketto.B
open Go.RowKit Go.Maps Classical
open Go.Proofs.Ybulketto.C (hid cell_later cell_row free_row heap_put heap_far lock_at keyed key_str toList_iff toList_ne)
attribute [local go_sem ↓] Go.wp_at_zero Go.wp_at_succ

/-- Nothing old turns outside the blocks of S. -/
structure Sp (S : Nat → Prop) (w w' : World) : Prop where
  os : w'.os = w.os
  tape : w'.tape = w.tape
  output : w'.output = w.output
  size : w.heap.size ≤ w'.heap.size
  block : ∀ b, b < w.heap.size → ¬ S b → w'.heap[b]? = w.heap[b]?
section
variable {S : Nat → Prop} {w w' w'' : World}
theorem Sp.refl : Sp S w w := ⟨rfl, rfl, rfl, Nat.le_refl _, fun _ _ _ => rfl⟩
theorem Sp.setCell (h : Sp S w w') {g j : Nat} (hg : S g) (v : Value) : Sp S w (w'.setCell ⟨g, j, none⟩ v) :=
  ⟨h.os, h.tape, h.output, by simp [World.setCell, h.size], fun b hl hb => (heap_far w' v (fun e => hb (by rw [e]; exact hg))).trans (h.block b hl hb)⟩
theorem Sp.setNew (h : Sp S w w') {g j : Nat} (hg : w.heap.size ≤ g) (v : Value) : Sp S w (w'.setCell ⟨g, j, none⟩ v) :=
  ⟨h.os, h.tape, h.output, by simp [World.setCell, h.size], fun b hl hb => (heap_far w' v (by omega)).trans (h.block b hl hb)⟩
theorem Sp.but (h : Sp S w w') {r : Nat} (hr : S r) (hb : But r w' w'') : Sp S w w'' :=
  ⟨hb.os.trans h.os, hb.tape.trans h.tape, hb.output.trans h.output, by rw [hb.size]; exact h.size, fun b hl hn => (hb.block b (fun e => hn (by rw [e]; exact hr))).trans (h.block b hl hn)⟩
theorem Sp.trans (h : Sp S w w') (h2 : Sp S w' w'') : Sp S w w'' :=
  ⟨h2.os.trans h.os, h2.tape.trans h.tape, h2.output.trans h.output, Nat.le_trans h.size h2.size, fun b hl hn => (h2.block b (Nat.lt_of_lt_of_le hl h.size) hn).trans (h.block b hl hn)⟩
theorem Sp.mono {S' : Nat → Prop} (h : Sp S w w') (hs : ∀ b, S b → S' b) : Sp S' w w' := ⟨h.os, h.tape, h.output, h.size, fun b hl hn => h.block b hl (fun hb => hn (hs b hb))⟩
theorem Sp.of (h : Below w.heap.size w w') : Sp S w w' := ⟨h.os, h.tape, h.output, h.size, fun b hl _ => h.block b hl⟩
theorem Sp.below {N : Nat} {w0 : World} (h : Sp S w w') (hb : Below N w0 w) (hN : N ≤ w.heap.size) (hS : ∀ b, S b → N ≤ b) : Below N w0 w' :=
  ⟨h.os.trans hb.os, h.tape.trans hb.tape, h.output.trans hb.output, Nat.le_trans hb.size h.size, fun b hl => (h.block b (by omega) (fun hs => by have := hS b hs; omega)).trans (hb.block b hl)⟩
end

set_option maxHeartbeats 400000 in
set_option maxRecDepth 100000 in
theorem at_any (d : Int) (w : World) (hd : -9223372036854775808 ≤ d ∧ d ≤ 9223372036854775807) :
    Calls Yba.prog 10 #[.int .i64 d] w fun e w' => e = .returned (.agg (tv d)) ∧ Below w.heap.size w w' := by
  have bel1 : Below w.heap.size w (w.alloc (.cells #[.int .u64 0, .int .i64 0, .pointer none] 60)) := (Below.refl _ _).alloc (Nat.le_refl _) _
  have hrow : (w.alloc (.cells #[.int .u64 0, .int .i64 0, .pointer none] 60)).heap[w.heap.size]? = some (.cells #[.int .u64 0, .int .i64 0, .pointer none] 60 (0, 0)) := heap_alloc_new w _
  have HAD := hid (add_any 0 d (w.alloc (.cells #[.int .u64 0, .int .i64 0, .pointer none] 60)) (by decide) hd)
  rw [show (0 : Int) + d = d by omega] at HAD
  go_enter Yba.func10, Yba.ntmps10
  go_wp2_with fail
  refine HAD.out.mono ?_
  rintro e w2 ⟨rfl, hb2⟩
  have hrow2 : w2.heap[w.heap.size]? = some (.cells #[.int .u64 0, .int .i64 0, .pointer none] 60 (0, 0)) := (hb2.block _ (by simp)).trans hrow
  have e0 : w2.cell? ⟨w.heap.size, 0, none⟩ = some (.int .u64 0) := by rw [cell_row hrow2]; rfl
  have e1 : w2.cell? ⟨w.heap.size, 1, none⟩ = some (.int .i64 0) := by rw [cell_row hrow2]; rfl
  have e2 : w2.cell? ⟨w.heap.size, 2, none⟩ = some (.pointer none) := by rw [cell_row hrow2]; rfl
  have f0 : w2.frozen? ⟨w.heap.size, 0, none⟩ = false := free_row hrow2
  have f1 : w2.frozen? ⟨w.heap.size, 1, none⟩ = false := free_row hrow2
  have f2 : w2.frozen? ⟨w.heap.size, 2, none⟩ = false := free_row hrow2
  have HR := hid hrow2
  have HB := hid (bel1.trans (hb2.mono bel1.size))
  clear hrow hrow2 hb2 bel1 HAD
  go_wp2_with fail
  refine bodyPost_ret (results_cell_row (g := w.heap.size) (t := 60) rfl _ _ _ (0, 0) _ rfl (heap_put _ _ (heap_put _ _ (heap_put _ _ HR.out))) Yba.underlying60 rfl (by kernel_rfl)) rfl ?_
  exact ⟨rfl, ((HB.out.setCell (Nat.le_refl _) _).setCell (Nat.le_refl _) _).setCell (Nat.le_refl _) _⟩

set_option maxHeartbeats 400000 in
set_option maxRecDepth 100000 in
theorem clock_any (C NW : Nat) (c now : Int) (w : World) (hne : NW ≠ C) (hc0 : 0 ≤ c) (hc1 : c ≤ 10) (hc : w.heap[C]? = some (.cells #[.int .i64 c] 3 (0, 0))) (hn : w.heap[NW]? = some (.cells (tv now) 60 (0, 0))) :
    Calls Yba.prog 12 #[.pointer (some ⟨C, 0, none⟩), .pointer (some ⟨NW, 0, none⟩)] w fun e w' => e = .returned (.agg (tv now)) ∧ Sp (fun b => b = C) w w' ∧ w'.heap[C]? = some (.cells #[.int .i64 (c + 1)] 3 (0, 0)) := by
  have hCl := (Array.getElem?_eq_some_iff.1 hc).1
  have hNl := (Array.getElem?_eq_some_iff.1 hn).1
  generalize hW1 : w.alloc (.cells #[.int .u64 0, .int .i64 0, .pointer none] 60) = w1
  have bel1 : Below w.heap.size w w1 := by rw [← hW1]; exact (Below.refl _ _).alloc (Nat.le_refl _) _
  have hrow : w1.heap[w.heap.size]? = some (.cells #[.int .u64 0, .int .i64 0, .pointer none] 60 (0, 0)) := by rw [← hW1]; exact heap_alloc_new w _
  have hc1' := (bel1.block C hCl).trans hc
  have hn1' := (bel1.block NW hNl).trans hn
  have x0 : w1.cell? ⟨C, 0, none⟩ = some (.int .i64 c) := by rw [cell_row hc1']; rfl
  have x1 : w1.frozen? ⟨C, 0, none⟩ = false := free_row hc1'
  have hw : wrap64 (c + 1) = c + 1 := by unfold wrap64; omega
  generalize hW2 : w1.setCell ⟨C, 0, none⟩ (.int .i64 (c + 1)) = w2
  have hc2 : w2.heap[C]? = some (.cells #[.int .i64 (c + 1)] 3 (0, 0)) := by rw [← hW2]; exact heap_put w1 _ hc1'
  have hn2 : w2.heap[NW]? = some (.cells (tv now) 60 (0, 0)) := by rw [← hW2]; exact (heap_far w1 _ hne).trans hn1'
  have hr2 : w2.heap[w.heap.size]? = some (.cells #[.int .u64 0, .int .i64 0, .pointer none] 60 (0, 0)) := by rw [← hW2]; exact (heap_far w1 _ (by omega)).trans hrow
  have y0 : w2.cell? ⟨NW, 0, none⟩ = some (.int .u64 (now % 1000000000)) := by rw [cell_row hn2]; rfl
  have y1 : w2.cell? ⟨NW, 1, none⟩ = some (.int .i64 (now / 1000000000)) := by rw [cell_row hn2]; rfl
  have y2 : w2.cell? ⟨NW, 2, none⟩ = some (.pointer none) := by rw [cell_row hn2]; rfl
  have e0 : w2.cell? ⟨w.heap.size, 0, none⟩ = some (.int .u64 0) := by rw [cell_row hr2]; rfl
  have e1 : w2.cell? ⟨w.heap.size, 1, none⟩ = some (.int .i64 0) := by rw [cell_row hr2]; rfl
  have e2 : w2.cell? ⟨w.heap.size, 2, none⟩ = some (.pointer none) := by rw [cell_row hr2]; rfl
  have f0 : w2.frozen? ⟨w.heap.size, 0, none⟩ = false := free_row hr2
  have f1 : w2.frozen? ⟨w.heap.size, 1, none⟩ = false := free_row hr2
  have f2 : w2.frozen? ⟨w.heap.size, 2, none⟩ = false := free_row hr2
  have sp2 : Sp (fun b => b = C) w w2 := by rw [← hW2]; exact (Sp.of (S := fun b => b = C) bel1).setCell (S := fun b => b = C) rfl _
  have HR := hid hr2
  have HC2 := hid hc2
  have HSP := hid sp2
  clear hr2 hc2 sp2 hn2 hrow hc hn hc1' hn1' bel1
  go_enter Yba.func12, Yba.ntmps12
  go_wp2_with fail
  refine bodyPost_ret (results_cell_row (g := w.heap.size) (t := 60) rfl _ _ _ (0, 0) _ rfl (heap_put _ _ (heap_put _ _ (heap_put _ _ HR.out))) Yba.underlying60 rfl (by kernel_rfl)) rfl ?_
  refine ⟨rfl, ?_, ?_⟩
  · exact ((HSP.out.setNew (Nat.le_refl _) _).setNew (Nat.le_refl _) _).setNew (Nat.le_refl _) _
  · rw [heap_far _ _ (by omega), heap_far _ _ (by omega), heap_far _ _ (by omega)]
    exact HC2.out

theorem undrew {w w1 : World} (h : Below w.drew.heap.size w.drew w1) : Below w.heap.size w w1 := ⟨h.os, h.tape, h.output, h.size, h.block⟩

/-- A lease that ends at U and holds no clip. -/
abbrev lease (U : Int) : Array Value := #[.int .u64 (U % 1000000000), .int .i64 (U / 1000000000), .pointer none, .slice none 0 0]

set_option maxHeartbeats 400000 in
set_option maxRecDepth 100000 in
theorem lasts_any (p : Nat) (U now : Int) (w : World) (hp : w.heap[p]? = some (.cells (lease U) 78 (0, 0))) :
    Calls Yba.prog 41 #[.pointer (some ⟨p, 0, none⟩), .agg (tv now)] w fun e w' => e = .returned (.bool (decide (now < U))) ∧ Below w.heap.size w w' := by
  have hpl := (Array.getElem?_eq_some_iff.1 hp).1
  generalize hW1 : w.alloc (.cells (tv now) 60) = w1
  have bel1 : Below w.heap.size w w1 := by rw [← hW1]; exact (Below.refl _ _).alloc (Nat.le_refl _) _
  have hrow : w1.heap[w.heap.size]? = some (.cells (tv now) 60 (0, 0)) := by rw [← hW1]; exact heap_alloc_new w _
  have hp1 := (bel1.block p hpl).trans hp
  have y0 : w1.cell? ⟨p, 0, none⟩ = some (.int .u64 (U % 1000000000)) := by rw [cell_row hp1]; rfl
  have y1 : w1.cell? ⟨p, 1, none⟩ = some (.int .i64 (U / 1000000000)) := by rw [cell_row hp1]; rfl
  have y2 : w1.cell? ⟨p, 2, none⟩ = some (.pointer none) := by rw [cell_row hp1]; rfl
  have x0 : w1.cell? ⟨w.heap.size, 0, none⟩ = some (.int .u64 (now % 1000000000)) := by rw [cell_row hrow]; rfl
  have x1 : w1.cell? ⟨w.heap.size, 1, none⟩ = some (.int .i64 (now / 1000000000)) := by rw [cell_row hrow]; rfl
  have x2 : w1.cell? ⟨w.heap.size, 2, none⟩ = some (.pointer none) := by rw [cell_row hrow]; rfl
  have HBF : Hid (∀ wx, Calls Yba.prog 42 #[.agg #[.int .u64 (now % 1000000000), .int .i64 (now / 1000000000), .pointer none], .agg #[.int .u64 (U % 1000000000), .int .i64 (U / 1000000000), .pointer none]] wx fun e w' => e = .returned (.bool (decide (now < U))) ∧ Below wx.heap.size wx w') := fun wx => before_any now U wx
  have HB1 := hid bel1
  clear bel1 hrow hp1 hp
  go_enter Yba.func41, Yba.ntmps41
  go_wp2_with fail
  go_region_held3 (fun w' => w'.cell? ⟨p, 0, none⟩ = some (.int .u64 (U % 1000000000)) ∧ w'.cell? ⟨p, 1, none⟩ = some (.int .i64 (U / 1000000000)) ∧ w'.cell? ⟨p, 2, none⟩ = some (.pointer none) ∧
      w'.cell? ⟨w.heap.size, 0, none⟩ = some (.int .u64 (now % 1000000000)) ∧ w'.cell? ⟨w.heap.size, 1, none⟩ = some (.int .i64 (now / 1000000000)) ∧ w'.cell? ⟨w.heap.size, 2, none⟩ = some (.pointer none))
    (first | (go_keep; done)) (first | (go_at_call 42; refine (HBF.out _).mono ?_; rintro e w9 ⟨rfl, hb9⟩; have hb9' := undrew hb9; have t1 := cell_later hb9' y0; have t2 := cell_later hb9' y1; have t3 := cell_later hb9' y2; have t4 := cell_later hb9' x0; have t5 := cell_later hb9' x1; have t6 := cell_later hb9' x2))
  have HB9 : Hid (Below w.heap.size w w9) := HB1.out.trans (hb9'.mono HB1.out.size)
  clear hb9 hb9' t1 t2 t3 t4 t5 t6
  go_wp2_with fail
  go_ret
  exact ⟨by first | rfl | simp, HB9.out⟩

theorem zero75 (w : World) : (zeroValue 75).run Yba.prog w = .ok (.pointer none) w := by kernel_rfl

set_option maxHeartbeats 1000000 in
set_option maxRecDepth 100000 in
theorem drop_any (T : Nat) (x : ByteArray) (p : Nat) (U : Int) (r it n : Nat) (f : Value → Option Value) (L : Value → Prop) (w : World) (hT : w.cell? ⟨T, 4, none⟩ = some (.map (some r))) (hpr : p ≠ r) (hx : x.size ≤ Go.maxLen)
    (hf : f (.string x) = some (.pointer (some ⟨p, 0, none⟩))) (hL : ¬ L (.string x)) (h : Rg Yba.prog 9 w r it n f L) (hp : w.heap[p]? = some (.cells (lease U) 78 (0, 0))) :
    Calls Yba.prog 43 #[.pointer (some ⟨T, 0, none⟩), .string x] w fun e w' => e = .returned (.tuple #[]) ∧ But r w w' ∧ ∃ n', Rg Yba.prog 9 w' r it n' (dropAt f (.string x)) L ∧ leftN w' it ≤ leftN w it := by
  have hlk := h.1.look keyed Yba.underlying71 (zero75 w) (key_str hx) false
  rw [hf] at hlk
  simp only [Bool.false_eq_true, if_false, Option.getD_some] at hlk
  obtain ⟨w2, n', hd0, hbut, hrg, hle⟩ := h.drop keyed Yba.underlying71 (key_str hx) hL 0
  have hd : ∀ ty, (Builtin.delete_ #[71, 9] ty #[.map (some r), .string x]).run Yba.prog w = .ok (.tuple #[]) w2 := fun ty => hd0
  have hp2 := (hbut.block p hpr).trans hp
  have y3 : w2.cell? ⟨p, 3, none⟩ = some (.slice none 0 0) := by rw [cell_row hp2]; rfl
  have HR : Hid (But r w w2 ∧ ∃ n', Rg Yba.prog 9 w2 r it n' (dropAt f (.string x)) L ∧ leftN w2 it ≤ leftN w it) := ⟨hbut, n', hrg, hle⟩
  clear hbut hrg hle hd0 h hp hp2
  go_enter Yba.func43, Yba.ntmps43
  go_wp2_with fail
  go_loopw [28] (fun i wr => i = .int .i64 0 ∧ w2 = wr) (fun _ _ => 0)
  case atStart => exact ⟨rfl, rfl⟩
  case round =>
    obtain ⟨rfl, hw⟩ := hrel
    subst hw
    go_wp2_with fail
    go_end0
    exact ⟨rfl, HR.out⟩

end Go.Proofs.Ybulketto.B
