/-
  LawS7281CWhole: the contract of playing (18).
-/
import Derived.Test.YbulkettoCLeaf
import Derived.Laws.EntriesVeiled
namespace Go.Proofs.Ybulketto.C
open Go.RowKit Go.Maps Go.MuLone Go.Conc.Locks Classical
attribute [local go_sem ↓] Go.wp_at_zero Go.wp_at_succ

theorem cell_row {w : World} {g j : Nat} {co : Array Value} {e : TypeId} (h1 : w.heap[g]? = some (.cells co e (0, 0))) : w.cell? ⟨g, j, none⟩ = co[j]? := by
  simp [World.cell?, h1]
theorem free_row {w : World} {g j : Nat} {co : Array Value} {e : TypeId} (h1 : w.heap[g]? = some (.cells co e (0, 0))) : w.frozen? ⟨g, j, none⟩ = false := by
  simp [World.frozen?, h1]
theorem heap_put (w : World) {g j : Nat} {co : Array Value} {e : TypeId} (v : Value) (h : w.heap[g]? = some (.cells co e (0, 0))) : (w.setCell ⟨g, j, none⟩ v).heap[g]? = some (.cells (co.setIfInBounds j v) e (0, 0)) := by
  simp [World.setCell, Array.getElem?_modify, h]
theorem heap_far (w : World) {g j b : Nat} (v : Value) (h : b ≠ g) : (w.setCell ⟨g, j, none⟩ v).heap[b]? = w.heap[b]? := Below.heap_setCell w ⟨g, j, none⟩ v b h

/-- Nothing turns outside the blocks of S. -/
structure Off (S : Nat → Prop) (w w' : World) : Prop where
  os : w'.os = w.os
  tape : w'.tape = w.tape
  output : w'.output = w.output
  size : w'.heap.size = w.heap.size
  block : ∀ b, ¬ S b → w'.heap[b]? = w.heap[b]?
section
variable {S : Nat → Prop} {w w' w'' : World}
theorem Off.refl : Off S w w := ⟨rfl, rfl, rfl, rfl, fun _ _ => rfl⟩
theorem Off.setCell (h : Off S w w') {g j : Nat} (hg : S g) (v : Value) : Off S w (w'.setCell ⟨g, j, none⟩ v) :=
  ⟨h.os, h.tape, h.output, by simp [World.setCell, h.size], fun b hb => (heap_far w' v (fun e => hb (by rw [e]; exact hg))).trans (h.block b hb)⟩
theorem Off.but (h : Off S w w') {r : Nat} (hr : S r) (hb : But r w' w'') : Off S w w'' :=
  ⟨hb.os.trans h.os, hb.tape.trans h.tape, hb.output.trans h.output, hb.size.trans h.size, fun b hn => (hb.block b (fun e => hn (e ▸ hr))).trans (h.block b hn)⟩
theorem Off.below {N : Nat} {w0 : World} (h : Off S w w') (hb : Below N w0 w) (hS : ∀ b, S b → N ≤ b) : Below N w0 w' :=
  ⟨h.os.trans hb.os, h.tape.trans hb.tape, h.output.trans hb.output, by rw [h.size]; exact hb.size, fun b hN => (h.block b (fun hs => by have := hS b hs; omega)).trans (hb.block b hN)⟩
end

/-- The prefetcher's block: the lock's two cells, clip, cancel, left, fresh, spare. -/
abbrev pfRow (st : Int) (clip : ByteArray) (cancel : Value) (left : Bool) (fresh spare : Value) : Array Value :=
  #[.int .i32 st, .int .u32 0, .string clip, cancel, .bool left, fresh, spare]

/-- What is handed in as 'cancel'. -/
def canc (C : Nat) : Bool → Value
  | true => .func (.func 16) #[] #[.pointer (some ⟨C, 0, none⟩)]
  | false => .nilFunc

theorem keyed : Keyed Yba.prog 9 := string_keyed Yba.underlying9
theorem key_str {s : ByteArray} (h : s.size ≤ Go.maxLen) : keyOf Yba.prog 9 (.string s) = some (.string s.data.toList) := by
  simp [keyOf, Yba.underlying9, mapKey, h]
theorem neq84 (fn : Fn) (a b : Array Value) (w : World) : (binOp .neq 84 (.func fn a b) .nilFunc).run Yba.prog w = .ok (.bool true) w := by
  have h : ∀ d : Nat, (Op.equalIn (d + 1) 84 (.func fn a b) .nilFunc).run Yba.prog w = .ok false w := fun d => by simp [Op.equalIn, run_underlying Yba.underlying84]
  simp only [binOp]
  simp [Op.equal, Op.maxDepth, h 9999]
theorem neq84n (w : World) : (binOp .neq 84 .nilFunc .nilFunc).run Yba.prog w = .ok (.bool false) w := by
  have h : ∀ d : Nat, (Op.equalIn (d + 1) 84 .nilFunc .nilFunc).run Yba.prog w = .ok true w := fun d => by simp [Op.equalIn, run_underlying Yba.underlying84]
  simp only [binOp]
  simp [Op.equal, Op.maxDepth, h 9999]
theorem delete_nil (s : ByteArray) (hs : s.size ≤ Go.maxLen) (ty : TypeId) (w : World) : (Builtin.delete_ #[85, 9] ty #[.map none, .string s]).run Yba.prog w = .ok (.tuple #[]) w := by
  simp [Builtin.delete_, run_underlying Yba.underlying85, keyed.check w _ (key_str hs), Result.andThen]

/-- The world behind playing. -/
structure After (B C : Nat) (clip id : ByteArray) (hc left : Bool) (fresh : Value) (sp : Option Nat) (n : Nat) (f : Value → Option Value) (w w' : World) : Prop where
  pf : w'.heap[B]? = some (.cells (pfRow 0 (if clip.toList == id.toList then clip else ⟨#[]⟩) (if clip.toList == id.toList then canc C hc else .nilFunc) left fresh (.map sp)) 89 (0, 0))
  cnt : w'.heap[C]? = some (.cells #[.int .i64 (if clip.toList == id.toList then 0 else if hc then 1 else 0)] 3 (0, 0))
  map : ∀ M, sp = some M → Mp Yba.prog 9 w' M (if (f (.string id)).isSome then n - 1 else n) (dropAt f (.string id))
  off : Off (fun b => b = B ∨ b = C ∨ sp = some b) w w'

set_option maxHeartbeats 1000000 in
set_option maxRecDepth 100000 in
theorem playing_any (B C : Nat) (hCB : C ≠ B) (clip id : ByteArray) (hc left : Bool) (fresh : Value) (sp : Option Nat) (n : Nat) (f : Value → Option Value) (w : World)
    (hp : w.heap[B]? = some (.cells (pfRow 0 clip (canc C hc) left fresh (.map sp)) 89 (0, 0))) (hcc : w.heap[C]? = some (.cells #[.int .i64 0] 3 (0, 0)))
    (hm : ∀ M, sp = some M → M ≠ B ∧ M ≠ C ∧ Mp Yba.prog 9 w M n f) (hsz : id.size ≤ Go.maxLen) :
    Calls Yba.prog 18 #[.pointer (some ⟨B, 0, none⟩), .string id] w fun e w' => e = .returned (.tuple #[]) ∧ After B C clip id hc left fresh sp n f w w' := by
  -- the lock is taken
  have hp1 : (w.setCell ⟨B, 0, none⟩ (.int .i32 1)).heap[B]? = some (.cells (pfRow 1 clip (canc C hc) left fresh (.map sp)) 89 (0, 0)) := heap_put w _ hp
  have hcc1 : (w.setCell ⟨B, 0, none⟩ (.int .i32 1)).heap[C]? = some (.cells #[.int .i64 0] 3 (0, 0)) := (heap_far w _ hCB).trans hcc
  have off1 : Off (fun b => b = B ∨ b = C ∨ sp = some b) w (w.setCell ⟨B, 0, none⟩ (.int .i32 1)) := Off.refl.setCell (.inl rfl) _
  have HLK := hid (lock_at ⟨B, 0, none⟩ w (by rw [cell_row hp]; rfl) (free_row hp))
  have hm1 : ∀ M, sp = some M → M ≠ B ∧ M ≠ C ∧ Mp Yba.prog 9 (w.setCell ⟨B, 0, none⟩ (.int .i32 1)) M n f := fun M h => ⟨(hm M h).1, (hm M h).2.1, (hm M h).2.2.kept (heap_far w _ (hm M h).1)⟩
  generalize hW1 : w.setCell ⟨B, 0, none⟩ (.int .i32 1) = w1 at *
  -- the deletion
  have hdel : ∃ w2, (∀ ty, (Builtin.delete_ #[85, 9] ty #[.map sp, .string id]).run Yba.prog w1 = .ok (.tuple #[]) w2) ∧ w2.heap[B]? = some (.cells (pfRow 1 clip (canc C hc) left fresh (.map sp)) 89 (0, 0)) ∧ w2.heap[C]? = some (.cells #[.int .i64 0] 3 (0, 0)) ∧
      (∀ M, sp = some M → M ≠ B ∧ M ≠ C ∧ Mp Yba.prog 9 w2 M (if (f (.string id)).isSome then n - 1 else n) (dropAt f (.string id))) ∧ Off (fun b => b = B ∨ b = C ∨ sp = some b) w w2 := by
    cases sp with
    | none => exact ⟨w1, fun ty => delete_nil id hsz ty w1, hp1, hcc1, (fun M h => by cases h), off1⟩
    | some M =>
      obtain ⟨a1, a2, a3⟩ := hm1 M rfl
      obtain ⟨w2, h1, h2, h3⟩ := a3.drop keyed Yba.underlying85 (key_str hsz) 0
      refine ⟨w2, fun ty => h1, (h2.block B (Ne.symm a1)).trans hp1, (h2.block C (Ne.symm a2)).trans hcc1, fun M' h => ?_, off1.but (.inr (.inr rfl)) h2⟩
      obtain rfl : M = M' := by simpa using h
      exact ⟨a1, a2, h3⟩
  obtain ⟨w2, hd, hp2, hcc2, hm2, off2⟩ := hdel
  have b6 : w1.cell? ⟨B, 6, none⟩ = some (.map sp) := by rw [cell_row hp1]; rfl
  have b2 : w2.cell? ⟨B, 2, none⟩ = some (.string clip) := by rw [cell_row hp2]; rfl
  have b3 : w2.cell? ⟨B, 3, none⟩ = some (canc C hc) := by rw [cell_row hp2]; rfl
  have z2 : ∀ j, w2.frozen? ⟨B, j, none⟩ = false := fun j => free_row hp2
  have z22 := z2 2
  have z23 := z2 3
  clear hp hcc hm hm1 off1 hp1 hcc1
  cases hsame : (clip.toList == id.toList)
  · -- another clip is stopped
    generalize hW3 : (w2.setCell ⟨B, 2, none⟩ (.string ⟨#[]⟩)).setCell ⟨B, 3, none⟩ .nilFunc = w3
    have hp3 : w3.heap[B]? = some (.cells (pfRow 1 ⟨#[]⟩ .nilFunc left fresh (.map sp)) 89 (0, 0)) := by rw [← hW3]; exact heap_put _ _ (heap_put w2 _ hp2)
    have hcc3 : w3.heap[C]? = some (.cells #[.int .i64 0] 3 (0, 0)) := by rw [← hW3, heap_far _ _ hCB, heap_far _ _ hCB]; exact hcc2
    have off3 : Off (fun b => b = B ∨ b = C ∨ sp = some b) w w3 := by rw [← hW3]; exact (off2.setCell (.inl rfl) _).setCell (.inl rfl) _
    have hm3 : ∀ M, sp = some M → M ≠ B ∧ M ≠ C ∧ Mp Yba.prog 9 w3 M (if (f (.string id)).isSome then n - 1 else n) (dropAt f (.string id)) := fun M h => by
      rw [← hW3]; exact ⟨(hm2 M h).1, (hm2 M h).2.1, ((hm2 M h).2.2.kept (heap_far _ _ (hm2 M h).1)).kept (heap_far _ _ (hm2 M h).1)⟩
    have HUN := hid (unlock_at ⟨B, 0, none⟩ w3 (by rw [cell_row hp3]; rfl) (free_row hp3))
    generalize hW4 : w3.setCell ⟨B, 0, none⟩ (.int .i32 0) = w4 at *
    have hp4 : w4.heap[B]? = some (.cells (pfRow 0 ⟨#[]⟩ .nilFunc left fresh (.map sp)) 89 (0, 0)) := by rw [← hW4]; exact heap_put w3 _ hp3
    have hcc4 : w4.heap[C]? = some (.cells #[.int .i64 0] 3 (0, 0)) := by rw [← hW4, heap_far _ _ hCB]; exact hcc3
    have off4 : Off (fun b => b = B ∨ b = C ∨ sp = some b) w w4 := by rw [← hW4]; exact off3.setCell (.inl rfl) _
    have hm4 : ∀ M, sp = some M → M ≠ B ∧ M ≠ C ∧ Mp Yba.prog 9 w4 M (if (f (.string id)).isSome then n - 1 else n) (dropAt f (.string id)) := fun M h => by
      rw [← hW4]; exact ⟨(hm3 M h).1, (hm3 M h).2.1, (hm3 M h).2.2.kept (heap_far _ _ (hm3 M h).1)⟩
    cases hc
    · have hn := neq84n
      have HAF : Hid (After B C clip id false left fresh sp n f w w4) := ⟨by simp only [hsame]; exact hp4, by simp only [hsame]; exact hcc4, fun M h => (hm4 M h).2.2, off4⟩
      simp only [canc] at b3
      clear hp4 hcc4 off4 hm4 hm3 off3 hcc3 hp3 hm2 off2 hcc2 hp2
      go_enter Yba.func18, Yba.ntmps18
      go_wp2_with fail
      refine HLK.out.mono ?_
      rintro e w9 ⟨rfl, rfl⟩
      go_wp2_with fail
      refine HUN.out.mono ?_
      rintro e w9 ⟨rfl, rfl⟩
      go_wp2_with fail
      go_end0
      exact ⟨rfl, HAF.out⟩
    · have hn := neq84
      have HCT := hid (count_any C 0 w4 (by decide) (by decide) (by rw [cell_row hcc4]; rfl) (free_row hcc4))
      have HAF : Hid (After B C clip id true left fresh sp n f w (w4.setCell ⟨C, 0, none⟩ (.int .i64 (0 + 1)))) :=
        ⟨by simp only [hsame]; exact (heap_far w4 _ (Ne.symm hCB)).trans hp4, by simp only [hsame]; exact heap_put w4 _ hcc4, fun M h => (hm4 M h).2.2.kept (heap_far _ _ (hm4 M h).2.1), off4.setCell (.inr (.inl rfl)) _⟩
      simp only [canc] at b3
      clear hp4 hcc4 off4 hm4 hm3 off3 hcc3 hp3 hm2 off2 hcc2 hp2
      go_enter Yba.func18, Yba.ntmps18
      go_wp2_with fail
      refine HLK.out.mono ?_
      rintro e w9 ⟨rfl, rfl⟩
      go_wp2_with fail
      refine HUN.out.mono ?_
      rintro e w9 ⟨rfl, rfl⟩
      go_wp2_with fail
      refine HCT.out.mono ?_
      rintro e w9 ⟨rfl, rfl⟩
      go_wp2_with fail
      go_end0
      exact ⟨rfl, HAF.out⟩
  · have HUN := hid (unlock_at ⟨B, 0, none⟩ w2 (by rw [cell_row hp2]; rfl) (free_row hp2))
    generalize hW4 : w2.setCell ⟨B, 0, none⟩ (.int .i32 0) = w4 at *
    have HAF : Hid (After B C clip id hc left fresh sp n f w w4) := by
      refine ⟨?_, ?_, fun M h => ?_, ?_⟩
      · simp only [hsame, if_true]; rw [← hW4]; exact heap_put w2 _ hp2
      · simp only [hsame, if_true]; rw [← hW4]; exact (heap_far w2 _ hCB).trans hcc2
      · rw [← hW4]; exact (hm2 M h).2.2.kept (heap_far _ _ (hm2 M h).1)
      · rw [← hW4]; exact off2.setCell (.inl rfl) _
    clear hm2 off2 hcc2 hp2
    go_enter Yba.func18, Yba.ntmps18
    go_wp2_with fail
    refine HLK.out.mono ?_
    rintro e w9 ⟨rfl, rfl⟩
    go_wp2_with fail
    refine HUN.out.mono ?_
    rintro e w9 ⟨rfl, rfl⟩
    go_wp2_with fail
    first | go_end0 | (simp only [Exit.inBlock, Exit.then]; refine bodyPost_ret (results_none rfl _ _ _) rfl ?_) | refine bodyPost_ret (results_none rfl _ _ _) rfl ?_
    exact ⟨rfl, HAF.out⟩

end Go.Proofs.Ybulketto.C
