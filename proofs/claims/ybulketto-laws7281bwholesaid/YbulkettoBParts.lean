/-
  LawS7281BWhole: newTracker (11), and the plain laws of the last loops.
-/
import Derived.Test.YbulkettoBRenew
namespace Go.Proofs.Ybulketto.B
open Go.RowKit Go.Maps Classical
open Go.Proofs.Ybulketto.C (hid cell_later cell_row free_row heap_put heap_far keyed key_str toList_iff toList_ne lastTo lastTo_lt lastTo_at)
attribute [local go_sem ↓] Go.wp_at_zero Go.wp_at_succ

theorem make70 (w : World) : (Instr.makeMap 70 none).run Yba.prog w = .ok (.map (some w.heap.size)) (w.alloc (.map #[] 0)) := by kernel_rfl
theorem make71 (w : World) : (Instr.makeMap 71 none).run Yba.prog w = .ok (.map (some w.heap.size)) (w.alloc (.map #[] 0)) := by kernel_rfl

/-- The blocks of an empty tracker. -/
structure Fresh (Mc Ml N : Nat) (w : World) : Prop where
  lo : N ≤ Mc
  lt : Mc < Ml
  hi : Ml < w.heap.size
  mc : Mp Yba.prog 9 w Mc 0 (fun _ => none)
  ml : Mp Yba.prog 9 w Ml 0 (fun _ => none)
  st : St w Ml

theorem fresh_world (w : World) (o : Obj) : Below w.heap.size w (((w.alloc o).alloc (.map #[] 0)).alloc (.map #[] 0)) ∧ Fresh (w.heap.size + 1) (w.heap.size + 1 + 1) w.heap.size (((w.alloc o).alloc (.map #[] 0)).alloc (.map #[] 0)) := by
  generalize hA : w.alloc o = wa
  have sa : wa.heap.size = w.heap.size + 1 := by rw [← hA]; simp
  have belA : Below w.heap.size w wa := by rw [← hA]; exact (Below.refl _ _).alloc (Nat.le_refl _) _
  have e1 : Mp Yba.prog 9 (wa.alloc (.map #[] 0)) (w.heap.size + 1) 0 (fun _ => none) := by have := Mp.new (P := Yba.prog) (k := 9) wa; rw [sa] at this; exact this
  have sb : (wa.alloc (.map #[] 0)).heap.size = w.heap.size + 1 + 1 := by simp [sa]
  have e2 : Mp Yba.prog 9 ((wa.alloc (.map #[] 0)).alloc (.map #[] 0)) (w.heap.size + 1 + 1) 0 (fun _ => none) := by have := Mp.new (P := Yba.prog) (k := 9) (wa.alloc (.map #[] 0)); rw [sb] at this; exact this
  have e3 : St ((wa.alloc (.map #[] 0)).alloc (.map #[] 0)) (w.heap.size + 1 + 1) := by have := St.new (wa.alloc (.map #[] 0)); rw [sb] at this; exact this
  exact ⟨(belA.alloc (by omega) _).alloc (by omega) _, ⟨by omega, by omega, by simp [sa], e1.below ((Below.refl _ _).alloc (Nat.le_refl _) _), e2, e3⟩⟩

set_option maxHeartbeats 1000000 in
set_option maxRecDepth 100000 in
theorem tracker_any (C NW : Nat) (w : World) :
    Calls Yba.prog 11 #[.func (.func 12) #[] #[.pointer (some ⟨C, 0, none⟩), .pointer (some ⟨NW, 0, none⟩)]] w fun e w' => ∃ Mc Ml, e = .returned (.agg (trow C NW Mc Ml 0 0)) ∧ Below w.heap.size w w' ∧ Fresh Mc Ml w.heap.size w' := by
  have m70 := make70
  have m71 := make71
  go_enter Yba.func11, Yba.ntmps11
  go_wp2_with fail
  have h0 : (((w.alloc (.cells (trow C NW (w.heap.size + 1) (w.heap.size + 1 + 1) 0 0) 73)).alloc (.map #[] 0)).alloc (.map #[] 0)).heap[w.heap.size]? = some (.cells (trow C NW (w.heap.size + 1) (w.heap.size + 1 + 1) 0 0) 73 (0, 0)) :=
    (heap_alloc_old _ _ (by simp; omega)).trans ((heap_alloc_old _ _ (by simp)).trans (heap_alloc_new w _))
  refine bodyPost_ret (results_cell_row (g := w.heap.size) (t := 73) rfl _ _ _ (0, 0) _ rfl h0 Yba.underlying73 rfl (by kernel_rfl)) rfl ?_
  exact ⟨w.heap.size + 1, w.heap.size + 1 + 1, rfl, (fresh_world w _).1, (fresh_world w _).2⟩

/-! ### The filling -/
theorem fOf_put (PK : Nat → ByteArray) (pt : Nat → Nat) (k P : Nat) (x : Value) :
    putAt (fOf PK pt k fun _ => true) (.string (PK k)) (.pointer (some ⟨P, 0, none⟩)) x = fOf PK (fun j => if j = k then P else pt j) (k + 1) (fun _ => true) x := by
  by_cases hx : x = .string (PK k)
  · subst hx
    rw [putAt_same]
    simp [fOf, lastTo]
  · rw [putAt_other _ _ hx]
    unfold fOf
    split
    · rename_i y
      have hy : PK k ≠ y := fun h => hx (by rw [h])
      simp only [lastTo, toList_ne.2 hy]
      cases hl : lastTo PK y k with
      | none => rfl
      | some i =>
        have := lastTo_lt PK y k i hl
        simp
        omega
    · rfl

/-! ### The last loop -/
/-- The keys of the leases that are kept, of the first k entries. -/
def kept [D : (p : Prop) → Decidable p] (PK : Nat → ByteArray) (n : Nat) (K : Nat → Bool) : Nat → List Value
  | 0 => []
  | k + 1 => kept PK n K k ++ (if lastTo PK (PK k) n = some k ∧ K k = true then [.string (PK k)] else [])
theorem mem_kept {PK : Nat → ByteArray} {n : Nat} {K : Nat → Bool} {x : Value} : ∀ {k : Nat}, x ∈ kept PK n K k ↔ ∃ i, i < k ∧ lastTo PK (PK i) n = some i ∧ K i = true ∧ x = .string (PK i)
  | 0 => by simp [kept]
  | k + 1 => by
    rw [kept, List.mem_append, mem_kept]
    constructor
    · rintro (⟨i, h1, h2⟩ | h)
      · exact ⟨i, by omega, h2⟩
      · split at h
        · rename_i hc
          exact ⟨k, by omega, hc.1, hc.2, by simpa using h⟩
        · cases h
    · rintro ⟨i, h1, h2, h3, h4⟩
      by_cases hik : i = k
      · subst hik
        right
        rw [if_pos ⟨h2, h3⟩]
        simpa using h4
      · exact .inl ⟨i, by omega, h2, h3, h4⟩
theorem kept_nodup (PK : Nat → ByteArray) (n : Nat) (K : Nat → Bool) : ∀ k, (kept PK n K k).Nodup
  | 0 => List.nodup_nil
  | k + 1 => by
    rw [kept, List.nodup_append]
    refine ⟨kept_nodup PK n K k, by split <;> simp, fun a ha b hb => ?_⟩
    split at hb
    · rename_i hc
      obtain ⟨i, h1, h2, _, rfl⟩ := mem_kept.1 ha
      obtain rfl : b = .string (PK k) := by simpa using hb
      intro he
      have hpk : PK i = PK k := by simpa using he
      rw [hpk, hc.1] at h2
      simp at h2
      omega
    · cases hb
theorem kept_all (PK : Nat → ByteArray) (pt : Nat → Nat) (n : Nat) (K : Nat → Bool) (x : Value) : x ∈ kept PK n K n ↔ (fOf PK pt n K x).isSome = true := by
  rw [mem_kept]
  constructor
  · rintro ⟨i, _, h2, h3, rfl⟩
    rw [fOf_at h2, h3]; rfl
  · intro h
    obtain ⟨v, hv⟩ := Option.isSome_iff_exists.1 h
    obtain ⟨y, i, rfl, h1, h2, h3, _⟩ := fOf_some hv
    have := lastTo_key PK y n i h1
    exact ⟨i, h2, by rw [this]; exact h1, h3, by rw [this]⟩
theorem kept_len (PK : Nat → ByteArray) (n : Nat) (K : Nat → Bool) : ∀ k, (kept PK n K k).length ≤ k
  | 0 => Nat.le_refl _
  | k + 1 => by
    have := kept_len PK n K k
    rw [kept, List.length_append]
    split <;> simp <;> omega

theorem lastTo_ge (PK : Nat → ByteArray) (x : ByteArray) {j : Nat} (h : lastTo PK x (j + 1) = some j) : ∀ n, j + 1 ≤ n → ∃ L, j ≤ L ∧ lastTo PK x n = some L := by
  intro n hn
  induction n with
  | zero => omega
  | succ n ih =>
    by_cases hj : n = j
    · subst hj; exact ⟨n, Nat.le_refl _, h⟩
    · obtain ⟨L, h1, h2⟩ := ih (by omega)
      simp only [lastTo]
      split
      · exact ⟨n, by omega, rfl⟩
      · exact ⟨L, h1, h2⟩

/-- The value of the peer's last entry. -/
def puOf (PK : Nat → ByteArray) (U : Nat → Int) (peer : ByteArray) (k : Nat) : Int :=
  match lastTo PK peer k with
  | some i => U i
  | none => 0
theorem want_eq (PK : Nat → ByteArray) (U : Nat → Int) (n : Nat) (peer : ByteArray) (now : Int) : wantOf PK U n peer now = ((lastTo PK peer n).isSome && decide (now < puOf PK U peer n)) := by
  unfold wantOf puOf
  cases lastTo PK peer n <;> simp

end Go.Proofs.Ybulketto.B
