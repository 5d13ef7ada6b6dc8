/-
  A MAP's BLOCK AS A PLAIN FUNCTION, WHATEVER ITS ELEMENTS ARE: 'Mp P k w r n f': block r of w is a map with n entries; f says which key bears which value.
-/
import Derived.Maps.Keyed
import Derived.Laws.Rows
import Derived.Below
namespace Go.Proofs.Ybulketto
open Go.WideShapes Go.MapKept Go.Maps Go.RowKit Classical

def Mp (P : Program) (k : TypeId) (w : World) (r n : Nat) (f : Value → Option Value) : Prop :=
  ∃ es clock, w.heap[r]? = some (.map es clock) ∧ es.size = n ∧ es.toList.Pairwise (fun x y => x.key ≠ y.key) ∧
    (∀ x ∈ es.toList, (∃ l, keyOf P k x.key = some l) ∧ f x.key = some x.val) ∧ ∀ s v, f s = some v → ∃ x ∈ es.toList, x.key = s

/-- f with the value v at s. -/
def putAt [D : (p : Prop) → Decidable p] (f : Value → Option Value) (s v : Value) : Value → Option Value := fun x => if x = s then some v else f x
/-- f without s. -/
def dropAt [D : (p : Prop) → Decidable p] (f : Value → Option Value) (s : Value) : Value → Option Value := fun x => if x = s then none else f x

theorem putAt_same (f : Value → Option Value) (s v : Value) : putAt f s v s = some v := by simp [putAt]
theorem putAt_other (f : Value → Option Value) {s x : Value} (v : Value) (h : x ≠ s) : putAt f s v x = f x := by simp [putAt, h]
theorem dropAt_same (f : Value → Option Value) (s : Value) : dropAt f s s = none := by simp [dropAt]
theorem dropAt_other (f : Value → Option Value) {s x : Value} (h : x ≠ s) : dropAt f s x = f x := by simp [dropAt, h]

/-- w' is w but for block r. -/
structure But (r : Nat) (w w' : World) : Prop where
  os : w'.os = w.os
  tape : w'.tape = w.tape
  output : w'.output = w.output
  size : w'.heap.size = w.heap.size
  block : ∀ j, j ≠ r → w'.heap[j]? = w.heap[j]?

theorem But.refl (r : Nat) (w : World) : But r w w := ⟨rfl, rfl, rfl, rfl, fun _ _ => rfl⟩
theorem But.cell {r : Nat} {w w' : World} (h : But r w w') {a : Addr} (ha : a.block ≠ r) : w'.cell? a = w.cell? a := World.cell?_of_block (h.block _ ha)
theorem But.below {r N : Nat} {w0 w w' : World} (h : But r w w') (hb : Below N w0 w) (hN : N ≤ r) : Below N w0 w' :=
  ⟨h.os.trans hb.os, h.tape.trans hb.tape, h.output.trans hb.output, by rw [h.size]; exact hb.size, fun j hj => (h.block j (by omega)).trans (hb.block j hj)⟩

theorem but_set (w : World) (r : Nat) (o : Obj) : But r w { w with heap := w.heap.setIfInBounds r o } :=
  ⟨rfl, rfl, rfl, by simp, fun j hj => by simp [Ne.symm hj]⟩

section
variable {P : Program} {k e t : TypeId} {w w' : World} {r n : Nat} {f : Value → Option Value}

theorem Mp.lt (h : Mp P k w r n f) : r < w.heap.size := by
  obtain ⟨es, clock, h1, _⟩ := h
  exact (Array.getElem?_eq_some_iff.1 h1).1
theorem Mp.kept (h : Mp P k w r n f) (hr : w'.heap[r]? = w.heap[r]?) : Mp P k w' r n f := by
  obtain ⟨es, clock, h1, h2⟩ := h
  exact ⟨es, clock, hr.trans h1, h2⟩
theorem Mp.below (h : Mp P k w r n f) (hb : Below w.heap.size w w') : Mp P k w' r n f := h.kept (hb.block r h.lt)
theorem Mp.but (h : Mp P k w r n f) {q : Nat} (hb : But q w w') (hq : r ≠ q) : Mp P k w' r n f := h.kept (hb.block r hq)
theorem Mp.congr {g : Value → Option Value} (h : Mp P k w r n f) (hfg : ∀ x, f x = g x) : Mp P k w r n g := by
  obtain rfl : f = g := funext hfg
  exact h
theorem Mp.new (w : World) : Mp P k (w.alloc (.map #[] 0)) w.heap.size 0 (fun _ => none) :=
  ⟨#[], 0, heap_alloc_new w _, rfl, by simp, by simp, fun s v h => by cases h⟩

/-- Who bears a key is found; its value is f's. -/
theorem Mp.found (h : Mp P k w r n f) {es : Array MapEntry} {clock : Nat} (h1 : w.heap[r]? = some (.map es clock)) {s : Value} :
    (∀ x ∈ es.toList, (∃ l, keyOf P k x.key = some l) ∧ f x.key = some x.val) ∧ ((∀ x ∈ es.toList, x.key ≠ s) → f s = none) ∧ es.size = n ∧ es.toList.Pairwise (fun x y => x.key ≠ y.key) ∧ (∀ s v, f s = some v → ∃ x ∈ es.toList, x.key = s) := by
  obtain ⟨es', clock', h1', h2, h3, h4, h5⟩ := h
  rw [h1] at h1'
  simp only [Option.some.injEq, Obj.map.injEq] at h1'
  obtain ⟨rfl, rfl⟩ := h1'
  refine ⟨h4, fun hn => ?_, h2, h3, h5⟩
  cases hf : f s with
  | none => rfl
  | some v =>
    obtain ⟨x, hx, hxs⟩ := h5 s v hf
    exact absurd hxs (hn x hx)

/-- 'm[k]' and 'v, ok := m[k]' -/
theorem Mp.look (h : Mp P k w r n f) (K : Keyed P k) (ht : P.underlying t = some (.map k e)) {z : Value} (hz : (zeroValue e).run P w = .ok z w) {s : Value} {l : Lit} (hkey : keyOf P k s = some l) (c : Bool) :
    (Instr.lookup t (.map (some r)) s c).run P w = .ok (if c then .tuple #[(f s).getD z, .bool (f s).isSome] else (f s).getD z) w := by
  obtain ⟨es, clock, hb, _⟩ := id h
  obtain ⟨h4, h5, _⟩ := h.found hb (s := s)
  rcases K.find w hkey es.toList (fun x hx => (h4 x hx).1) with ⟨h1, h2⟩ | ⟨j, e0, h1, h2, h3⟩
  · rw [h5 h2]
    simp [Instr.lookup, run_underlying ht, MapKept.run_getObj_map hb, K.check w _ hkey, h1, hz, Result.andThen]
  · have hf := (h4 e0 (List.mem_of_getElem? h2)).2
    rw [h3] at hf
    rw [hf]
    simp [Instr.lookup, run_underlying ht, MapKept.run_getObj_map hb, K.check w _ hkey, h1, Result.andThen]

/-- 'm[k] = v' -/
theorem Mp.put (h : Mp P k w r n f) (K : Keyed P k) (ht : P.underlying t = some (.map k e)) {s : Value} {l : Lit} (hkey : keyOf P k s = some l) (v : Value) :
    ∃ w', (Instr.mapUpdate t (.map (some r)) s v).run P w = .ok () w' ∧ But r w w' ∧ Mp P k w' r (if (f s).isSome then n else n + 1) (putAt f s v) := by
  obtain ⟨es, clock, hb, _⟩ := id h
  obtain ⟨h4, h5, h6, h7, h8⟩ := h.found hb (s := s)
  have hlt := h.lt
  rcases K.find w hkey es.toList (fun x hx => (h4 x hx).1) with ⟨h1, h2⟩ | ⟨j, e0, h1, h2, h3⟩
  · have hf := h5 h2
    refine ⟨{ w with heap := w.heap.setIfInBounds r (.map (es.push ⟨s, v, clock⟩) (clock + 1)) }, by simp [Instr.mapUpdate, run_underlying ht, MapKept.run_getObj_map hb, K.check w false hkey, h1, MapKept.run_setObj_map _ hb, Result.andThen], but_set w r _, es.push ⟨s, v, clock⟩, clock + 1, by simp [hlt], by simp [hf, h6], ?_, ?_, ?_⟩
    · rw [Array.toList_push, List.pairwise_append]
      exact ⟨h7, by simp, fun a ha b hb' => by simp at hb'; subst hb'; exact h2 a ha⟩
    · intro x hx
      simp only [Array.toList_push, List.mem_append, List.mem_singleton] at hx
      rcases hx with hx | rfl
      · exact ⟨(h4 x hx).1, by rw [putAt_other f v (h2 x hx)]; exact (h4 x hx).2⟩
      · exact ⟨⟨l, hkey⟩, putAt_same f s v⟩
    · intro x u hx
      by_cases hxs : x = s
      · exact ⟨⟨s, v, clock⟩, by simp, hxs.symm⟩
      · rw [putAt_other f v hxs] at hx
        obtain ⟨y, hy, hyx⟩ := h8 x u hx
        exact ⟨y, by simp [Array.mem_toList_iff.1 hy], hyx⟩
  · have hj : es[j]? = some e0 := by simpa using h2
    have hf := (h4 e0 (List.mem_of_getElem? h2)).2
    rw [h3] at hf
    have hlist : (es.modify j (fun e' => { e' with key := s, val := v })).toList = es.toList.set j { e0 with key := s, val := v } := by rw [Array.toList_modify, ChangeMaps.modify_eq_set _ _ _ _ h2]
    have hjl : j < es.toList.length := (List.getElem?_eq_some_iff.1 h2).1
    have apart : ∀ i x, es.toList[i]? = some x → i ≠ j → x.key ≠ s := by
      intro i x hi hne
      obtain ⟨hil, rfl⟩ := List.getElem?_eq_some_iff.1 hi
      obtain ⟨_, hej⟩ := List.getElem?_eq_some_iff.1 h2
      rw [← h3, ← hej]
      rcases Nat.lt_or_gt_of_ne hne with hlt' | hgt
      · exact (List.pairwise_iff_getElem.1 h7) i j hil hjl hlt'
      · exact fun e => (List.pairwise_iff_getElem.1 h7) j i hjl hil hgt e.symm
    refine ⟨{ w with heap := w.heap.setIfInBounds r (.map (es.modify j (fun e' => { e' with key := s, val := v })) clock) }, by simp [Instr.mapUpdate, run_underlying ht, MapKept.run_getObj_map hb, K.check w false hkey, h1, hj, h3, K.stays w hkey, MapKept.run_setObj_map _ hb, Result.andThen], but_set w r _, es.modify j (fun e' => { e' with key := s, val := v }), clock, by simp [hlt], by simp [hf, h6], ?_, ?_, ?_⟩
    · rw [hlist, List.pairwise_iff_getElem]
      intro i i' hi hi' hii
      rw [List.getElem_set, List.getElem_set]
      have hi0 : i < es.toList.length := by simpa using hi
      have hi0' : i' < es.toList.length := by simpa using hi'
      split
      · split
        · omega
        · exact fun e => apart i' _ (List.getElem?_eq_getElem hi0') (by omega) e.symm
      · split
        · exact fun e => apart i _ (List.getElem?_eq_getElem hi0) (by omega) e
        · exact (List.pairwise_iff_getElem.1 h7) i i' hi0 hi0' hii
    · intro x hx
      rw [hlist] at hx
      obtain ⟨i, hi, ex⟩ := List.getElem_of_mem hx
      rw [List.getElem_set] at ex
      have hi0 : i < es.toList.length := by simpa using hi
      split at ex
      · subst ex
        exact ⟨⟨l, hkey⟩, putAt_same f s v⟩
      · rename_i hne
        have hm : es.toList[i] ∈ es.toList := List.getElem_mem hi0
        rw [ex] at hm
        have hk := apart i x (by rw [List.getElem?_eq_getElem hi0, ex]) (by omega)
        exact ⟨(h4 x hm).1, by rw [putAt_other f v hk]; exact (h4 x hm).2⟩
    · intro x u hx
      by_cases hxs : x = s
      · exact ⟨{ e0 with key := s, val := v }, by rw [hlist]; exact List.mem_iff_getElem.2 ⟨j, by simpa using hjl, by simp⟩, hxs.symm⟩
      · rw [putAt_other f v hxs] at hx
        obtain ⟨y, hy, hyx⟩ := h8 x u hx
        obtain ⟨i, hi, ey⟩ := List.getElem_of_mem hy
        have hij : j ≠ i := by
          intro e1
          subst e1
          obtain ⟨_, hej⟩ := List.getElem?_eq_some_iff.1 h2
          rw [hej] at ey
          subst ey
          exact hxs (hyx.symm.trans h3)
        exact ⟨y, by rw [hlist]; exact List.mem_iff_getElem.2 ⟨i, by simpa using hi, by rw [List.getElem_set, if_neg hij, ey]⟩, hyx⟩

/-- 'delete(m, k)' -/
theorem Mp.drop (h : Mp P k w r n f) (K : Keyed P k) (ht : P.underlying t = some (.map k e)) {s : Value} {l : Lit} (hkey : keyOf P k s = some l) (ty : TypeId) :
    ∃ w', (Builtin.delete_ #[t, k] ty #[.map (some r), s]).run P w = .ok (.tuple #[]) w' ∧ But r w w' ∧ Mp P k w' r (if (f s).isSome then n - 1 else n) (dropAt f s) := by
  obtain ⟨es, clock, hb, _⟩ := id h
  obtain ⟨h4, h5, h6, h7, h8⟩ := h.found hb (s := s)
  have hlt := h.lt
  rcases K.find w hkey es.toList (fun x hx => (h4 x hx).1) with ⟨h1, h2⟩ | ⟨j, e0, h1, h2, h3⟩
  · have hf := h5 h2
    refine ⟨{ w with heap := w.heap.setIfInBounds r (.map es clock) }, by simp [Builtin.delete_, run_underlying ht, MapKept.run_getObj_map hb, K.check w _ hkey, h1, MapKept.run_setObj_map _ hb, Result.andThen], but_set w r _, es, clock, by simp [hlt], by simp [hf, h6], h7, ?_, ?_⟩
    · intro x hx
      exact ⟨(h4 x hx).1, by rw [dropAt_other f (h2 x hx)]; exact (h4 x hx).2⟩
    · intro x u hx
      by_cases hxs : x = s
      · subst hxs; rw [dropAt_same] at hx; cases hx
      · rw [dropAt_other f hxs] at hx
        exact h8 x u hx
  · have hf := (h4 e0 (List.mem_of_getElem? h2)).2
    rw [h3] at hf
    have hjl : j < es.toList.length := (List.getElem?_eq_some_iff.1 h2).1
    have hjs : j < es.size := by simpa using hjl
    have hsub : (es.eraseIdxIfInBounds j).toList = es.toList.eraseIdx j := by
      unfold Array.eraseIdxIfInBounds
      rw [dif_pos hjs]
      simp
    have hsz : (es.eraseIdxIfInBounds j).size = es.size - 1 := by
      rw [← Array.length_toList, hsub, List.length_eraseIdx_of_lt hjl, Array.length_toList]
    have apart : ∀ i x, es.toList[i]? = some x → i ≠ j → x.key ≠ s := by
      intro i x hi hne
      obtain ⟨hil, rfl⟩ := List.getElem?_eq_some_iff.1 hi
      obtain ⟨_, hej⟩ := List.getElem?_eq_some_iff.1 h2
      rw [← h3, ← hej]
      rcases Nat.lt_or_gt_of_ne hne with hlt' | hgt
      · exact (List.pairwise_iff_getElem.1 h7) i j hil hjl hlt'
      · exact fun e => (List.pairwise_iff_getElem.1 h7) j i hjl hil hgt e.symm
    refine ⟨{ w with heap := w.heap.setIfInBounds r (.map (es.eraseIdxIfInBounds j) clock) }, by simp [Builtin.delete_, run_underlying ht, MapKept.run_getObj_map hb, K.check w _ hkey, h1, MapKept.run_setObj_map _ hb, Result.andThen], but_set w r _, es.eraseIdxIfInBounds j, clock, by simp [hlt], by simp [hf, hsz, h6], ?_, ?_, ?_⟩
    · rw [hsub]; exact h7.sublist (List.eraseIdx_sublist _ _)
    · intro x hx
      rw [hsub] at hx
      obtain ⟨i, hne, hi⟩ := List.mem_eraseIdx_iff_getElem?.1 hx
      have hm := List.mem_of_getElem? hi
      exact ⟨(h4 x hm).1, by rw [dropAt_other f (apart i x hi hne)]; exact (h4 x hm).2⟩
    · intro x u hx
      by_cases hxs : x = s
      · subst hxs; rw [dropAt_same] at hx; cases hx
      · rw [dropAt_other f hxs] at hx
        obtain ⟨y, hy, hyx⟩ := h8 x u hx
        obtain ⟨i, hi⟩ := List.mem_iff_getElem?.1 hy
        have hij : i ≠ j := by
          intro e1
          subst e1
          rw [h2] at hi
          cases hi
          exact hxs (hyx.symm.trans h3)
        exact ⟨y, by rw [hsub]; exact List.mem_eraseIdx_iff_getElem?.2 ⟨i, hij, hi⟩, hyx⟩

/-- 'len(m)' -/
theorem Mp.length (h : Mp P k w r n f) (ht : P.underlying t = some (.map k e)) (ty : TypeId) : (Builtin.len_ #[t] ty #[.map (some r)]).run P w = .ok (goInt n) w := by
  obtain ⟨es, clock, hb, h2, _⟩ := id h
  simp [Builtin.len_, run_underlying ht, MapKept.run_getObj_map hb, h2]

end
end Go.Proofs.Ybulketto
