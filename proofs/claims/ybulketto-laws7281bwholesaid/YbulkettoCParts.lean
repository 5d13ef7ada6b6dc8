/-
  LawS7281CWhole: the plain laws: which key bears which value behind a filling, how many keys there are.
-/
import Derived.Test.YbulkettoCPlay
namespace Go.Proofs.Ybulketto.C
open Go.RowKit Go.Maps Classical

theorem toList_iff {a b : ByteArray} : (a.toList == b.toList) = true ↔ a = b := by
  rw [beq_iff_eq, ByteArray.toList_eq, ByteArray.toList_eq]
  constructor
  · intro h
    obtain ⟨⟨x⟩⟩ := a
    obtain ⟨⟨y⟩⟩ := b
    simp only at h
    rw [h]
  · rintro rfl
    rfl
theorem toList_ne {a b : ByteArray} : (a.toList == b.toList) = false ↔ a ≠ b := by
  rw [← Bool.not_eq_true, toList_iff]

/-- The last place of x among the first j. -/
def lastTo (K : Nat → ByteArray) (x : ByteArray) : Nat → Option Nat
  | 0 => none
  | j + 1 => if (K j).toList == x.toList then some j else lastTo K x j
theorem lastTo_seen (K : Nat → ByteArray) (x : ByteArray) : ∀ n, (lastTo K x n).isSome = seenTo K x n
  | 0 => rfl
  | n + 1 => by
    have := lastTo_seen K x n
    simp only [lastTo, seenTo]
    cases h : ((K n).toList == x.toList)
    · simp [this]
    · simp
theorem lastTo_lt (K : Nat → ByteArray) (x : ByteArray) : ∀ n L, lastTo K x n = some L → L < n
  | 0, L, h => by cases h
  | n + 1, L, h => by
    simp only [lastTo] at h
    split at h
    · simp at h; omega
    · have := lastTo_lt K x n L h; omega

theorem dist_drop (K : Nat → ByteArray) (id s : ByteArray) : ∀ n, dist K true id n + (if seenTo K id n then 1 else 0) = dist K false s n
  | 0 => rfl
  | n + 1 => by
    have ih := dist_drop K id s n
    cases h : ((K n).toList == id.toList)
    · have e1 : dist K true id (n + 1) = dist K true id n + if seenTo K (K n) n then 0 else 1 := by simp only [dist, h]; rfl
      have e2 : dist K false s (n + 1) = dist K false s n + if seenTo K (K n) n then 0 else 1 := by simp only [dist]; rfl
      have e3 : seenTo K id (n + 1) = seenTo K id n := by simp only [seenTo, h, Bool.or_false]
      rw [e1, e2, e3]
      omega
    · have hk : K n = id := toList_iff.1 h
      have e1 : dist K true id (n + 1) = dist K true id n := dist_skip (by simp [hk])
      have e2 : dist K false s (n + 1) = dist K false s n + if seenTo K (K n) n then 0 else 1 := by simp only [dist]; rfl
      have e3 : seenTo K id (n + 1) = true := by simp only [seenTo, h, Bool.or_true]
      rw [e1, e2, e3, hk]
      cases hs : seenTo K id n <;> rw [hs] at ih <;> simp at ih ⊢ <;> omega

/-- The count behind one write. -/
theorem dist_put (K : Nat → ByteArray) (s : ByteArray) (k : Nat) : (if seenTo K (K k) k then dist K false s k else dist K false s k + 1) = dist K false s (k + 1) := by
  simp only [dist]
  cases seenTo K (K k) k <;> rfl

/-- The map's view behind the first k keys of the filling with 'true'. -/
def Full (K : Nat → ByteArray) (k : Nat) (f : Value → Option Value) : Prop := ∀ x, f (.string x) = if seenTo K x k then some (.bool true) else none
theorem Full.step {K : Nat → ByteArray} {k : Nat} {f : Value → Option Value} (h : Full K k f) : Full K (k + 1) (putAt f (.string (K k)) (.bool true)) := by
  intro x
  by_cases hx : K k = x
  · subst hx
    rw [putAt_same]
    simp [seenTo]
  · rw [putAt_other _ _ (by simpa using Ne.symm hx), h x]
    simp only [seenTo, toList_ne.2 hx, Bool.or_false]
theorem Full.some {K : Nat → ByteArray} {k : Nat} {f : Value → Option Value} (h : Full K k f) (x : ByteArray) : (f (.string x)).isSome = seenTo K x k := by
  rw [h x]; cases seenTo K x k <;> rfl

/-- .. with the values of 'vAt'. -/
def Last (K : Nat → ByteArray) (v : Nat → Bool) (k : Nat) (f : Value → Option Value) : Prop := ∀ x, f (.string x) = (lastTo K x k).map fun i => .bool (v i)
theorem Last.step {K : Nat → ByteArray} {v : Nat → Bool} {k : Nat} {f : Value → Option Value} (h : Last K v k f) : Last K v (k + 1) (putAt f (.string (K k)) (.bool (v k))) := by
  intro x
  by_cases hx : K k = x
  · subst hx
    rw [putAt_same]
    simp [lastTo]
  · rw [putAt_other _ _ (by simpa using Ne.symm hx), h x]
    simp only [lastTo, toList_ne.2 hx]
    rfl
theorem Last.some {K : Nat → ByteArray} {v : Nat → Bool} {k : Nat} {f : Value → Option Value} (h : Last K v k f) (x : ByteArray) : (f (.string x)).isSome = seenTo K x k := by
  rw [h x, Option.isSome_map, lastTo_seen]

/-- The inner loop of the last check. -/
theorem lastTo_at (K : Nat → ByteArray) (i : Nat) : lastTo K (K i) (i + 1) = some i := by simp [lastTo]
theorem seen_own (K : Nat → ByteArray) {i n : Nat} (h : i < n) : seenTo K (K i) n = true := seenTo_mono (j := i + 1) (by simp [seenTo]) n (by omega)

theorem zero4 (w : World) : (zeroValue 4).run Yba.prog w = .ok (.bool false) w := by kernel_rfl
theorem make85 (w : World) : (Instr.makeMap 85 none).run Yba.prog w = .ok (.map (some w.heap.size)) (w.alloc (.map #[] 0)) := by kernel_rfl
theorem len_nil (ty : TypeId) (w : World) : (Builtin.len_ #[85] ty #[.map none]).run Yba.prog w = .ok (goInt 0) w := by
  simp [Builtin.len_, run_underlying Yba.underlying85]

/-- Taking the lock and giving it back leaves the world as it was read. -/
theorem After.relock {B C : Nat} {clip id : ByteArray} {hc left : Bool} {fresh : Value} {sp : Option Nat} {n : Nat} {f : Value → Option Value} {w w' : World} (h : After B C clip id hc left fresh sp n f w w') (hCB : C ≠ B) (hM : ∀ M, sp = some M → M ≠ B) :
    After B C clip id hc left fresh sp n f w ((w'.setCell ⟨B, 0, none⟩ (.int .i32 1)).setCell ⟨B, 0, none⟩ (.int .i32 0)) :=
  ⟨heap_put _ _ (heap_put w' _ h.pf), (heap_far _ _ hCB).trans ((heap_far _ _ hCB).trans h.cnt), fun M hm => ((h.map M hm).kept (heap_far _ _ (hM M hm))).kept (heap_far _ _ (hM M hm)), (h.off.setCell (.inl rfl) _).setCell (.inl rfl) _⟩

end Go.Proofs.Ybulketto.C
