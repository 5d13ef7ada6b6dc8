/-
  RANGING OVER A MAP THAT IS SEEN AS A PLAIN FUNCTION ('Mp': YbulkettoCMap), with deletions of what has come out; how many entries there are.
-/
import Derived.Test.YbulkettoCMap
import Derived.Maps.RangeRun
namespace Go.Proofs.Ybulketto
open Go.WideShapes Go.MapKept Go.Maps Go.RowKit Classical
open Go.ChangeMaps (setBlock)

section
variable {P : Program} {k t e : TypeId} {w w' : World} {r n : Nat} {f : Value → Option Value}

/-! ### How many -/
theorem nodup_len {α : Type} [DecidableEq α] : ∀ (a b : List α), a.Nodup → (∀ x ∈ a, x ∈ b) → a.length ≤ b.length
  | [], b, _, _ => Nat.zero_le _
  | x :: a, b, hn, hs => by
    have hx := hs x (by simp)
    have hn' := List.nodup_cons.1 hn
    have h1 := nodup_len a (b.erase x) hn'.2 (fun y hy => (List.mem_erase_of_ne (fun e => hn'.1 (by rw [← e]; exact hy))).2 (hs y (by simp [hy])))
    have h2 := List.length_erase_of_mem hx
    have h3 := List.length_pos_of_mem hx
    simp
    omega

theorem Mp.count (h : Mp P k w r n f) (l : List Value) (hl : l.Nodup) (hm : ∀ x, x ∈ l ↔ (f x).isSome = true) : n = l.length := by
  obtain ⟨es, clock, h1, h2, h3, h4, h5⟩ := h
  have hd : DecidableEq Value := fun a b => Classical.propDecidable _
  have hk : (es.toList.map (·.key)).Nodup := by
    rw [List.nodup_iff_pairwise_ne, List.pairwise_map]
    exact h3
  have a1 := nodup_len (es.toList.map (·.key)) l hk (fun x hx => by
    obtain ⟨y, hy, rfl⟩ := List.mem_map.1 hx
    rw [hm, (h4 y hy).2]; rfl)
  have a2 := nodup_len l (es.toList.map (·.key)) hl (fun x hx => by
    rw [hm] at hx
    obtain ⟨v, hv⟩ := Option.isSome_iff_exists.1 hx
    obtain ⟨y, hy, hyx⟩ := h5 x v hv
    exact List.mem_map.2 ⟨y, hy, hyx⟩)
  simp at a1 a2
  omega

/-! ### The stamps -/
def St (w : World) (r : Nat) : Prop := ∃ es clock, w.heap[r]? = some (.map es clock) ∧ (es.toList.map (·.born)).Nodup ∧ ∀ x ∈ es.toList, x.born < clock
theorem St.new (w : World) : St (w.alloc (.map #[] 0)) w.heap.size := ⟨#[], 0, heap_alloc_new w _, by simp, by simp⟩
theorem St.kept (h : St w r) (hr : w'.heap[r]? = w.heap[r]?) : St w' r := by
  obtain ⟨es, c, h1, h2⟩ := h
  exact ⟨es, c, hr.trans h1, h2⟩

theorem St.put (hs : St w r) (h : Mp P k w r n f) (K : Keyed P k) (ht : P.underlying t = some (.map k e)) {s : Value} {l : Lit} (hkey : keyOf P k s = some l) (v : Value)
    (hrun : (Instr.mapUpdate t (.map (some r)) s v).run P w = .ok () w') : St w' r := by
  obtain ⟨es, clock, hb, hnd, hlt⟩ := hs
  obtain ⟨h4, _⟩ := h.found hb (s := s)
  have hl := h.lt
  rcases K.find w hkey es.toList (fun x hx => (h4 x hx).1) with ⟨h1, h2⟩ | ⟨j, e0, h1, h2, h3⟩
  · simp [Instr.mapUpdate, run_underlying ht, MapKept.run_getObj_map hb, K.check w false hkey, h1, MapKept.run_setObj_map _ hb, Result.andThen] at hrun
    subst hrun
    refine ⟨es.push ⟨s, v, clock⟩, clock + 1, by simp [hl], ?_, ?_⟩
    · simp only [Array.toList_push, List.map_append, List.map_cons, List.map_nil]
      rw [List.nodup_append]
      refine ⟨hnd, by simp, fun a ha b hb' => ?_⟩
      obtain ⟨x, hx, rfl⟩ := List.mem_map.1 ha
      simp at hb'
      have := hlt x hx
      omega
    · intro x hx
      simp only [Array.toList_push, List.mem_append, List.mem_singleton] at hx
      rcases hx with hx | rfl
      · have := hlt x hx; omega
      · show clock < clock + 1
        omega
  · have hj : es[j]? = some e0 := by simpa using h2
    simp [Instr.mapUpdate, run_underlying ht, MapKept.run_getObj_map hb, K.check w false hkey, h1, hj, h3, K.stays w hkey, MapKept.run_setObj_map _ hb, Result.andThen] at hrun
    subst hrun
    have hlist : (es.modify j (fun e' => { e' with key := s, val := v })).toList = es.toList.set j { e0 with key := s, val := v } := by rw [Array.toList_modify, ChangeMaps.modify_eq_set _ _ _ _ h2]
    have hborn : (es.toList.set j { e0 with key := s, val := v }).map (·.born) = es.toList.map (·.born) := by
      obtain ⟨hjl, hej⟩ := List.getElem?_eq_some_iff.1 h2
      rw [List.map_set]
      have : ({ e0 with key := s, val := v } : MapEntry).born = (es.toList.map (·.born))[j]'(by simpa using hjl) := by simp [← hej]
      rw [this, List.set_getElem_self]
    refine ⟨es.modify j (fun e' => { e' with key := s, val := v }), clock, by simp [hl], ?_, ?_⟩
    · rw [hlist, hborn]; exact hnd
    · intro x hx
      rw [hlist] at hx
      have : x.born ∈ es.toList.map (·.born) := by rw [← hborn]; exact List.mem_map.2 ⟨x, hx, rfl⟩
      obtain ⟨y, hy, hyx⟩ := List.mem_map.1 this
      rw [← hyx]
      exact hlt y hy

/-! ### The range -/
/-- Block r is a map that reads as f; block it ranges over it; L: what is still to come. -/
def Rg (P : Program) (k : TypeId) (w : World) (r it n : Nat) (f : Value → Option Value) (L : Value → Prop) : Prop :=
  Mp P k w r n f ∧ r ≠ it ∧ ∃ es clock since seen c0, w.heap[r]? = some (.map es clock) ∧ (es.toList.map (·.born)).Nodup ∧ (∀ x ∈ es.toList, x.born < since) ∧ w.heap[it]? = some (.mapIter (some r) since seen c0) ∧ since ≤ c0 ∧ since ≤ clock ∧
    ∀ s, L s ↔ ∃ x ∈ es.toList, x.key = s ∧ seen.contains x.born = false

/-- How many are still to come. -/
def leftN (w : World) (it : Nat) : Nat :=
  match w.heap[it]? with
  | some (.mapIter (some r) _ seen _) => match w.heap[r]? with
    | some (.map es _) => (leftOf es seen).size
    | _ => 0
  | _ => 0
theorem leftN_eq {it since c0 : Nat} {seen : Array Nat} {es : Array MapEntry} {clock : Nat} (h1 : w.heap[it]? = some (.mapIter (some r) since seen c0)) (h2 : w.heap[r]? = some (.map es clock)) : leftN w it = (leftOf es seen).size := by
  simp [leftN, h1, h2]
theorem leftN_kept {it : Nat} {L : Value → Prop} (h : Rg P k w r it n f L) (h1 : w'.heap[it]? = w.heap[it]?) (h2 : w'.heap[r]? = w.heap[r]?) : leftN w' it = leftN w it := by
  obtain ⟨_, _, es, clock, since, seen, c0, a1, _, _, a4, _⟩ := h
  rw [leftN_eq a4 a1, leftN_eq (h1.trans a4) (h2.trans a1)]

theorem Rg.start (h : Mp P k w r n f) (hs : St w r) (ht : P.underlying t = some (.map k e)) :
    ∃ w', (Instr.range t (.map (some r))).run P w = .ok (.pointer (some ⟨w.heap.size, 0, none⟩)) w' ∧ Below w.heap.size w w' ∧ Rg P k w' r w.heap.size n f (fun s => (f s).isSome = true) := by
  obtain ⟨es, clock, hb, hnd, hlt⟩ := hs
  have hl := h.lt
  obtain ⟨h4, _, _, _, h8⟩ := h.found hb (s := .nilIface)
  have bel : Below w.heap.size w (w.alloc (.mapIter (some r) clock #[] clock)) := (Below.refl _ _).alloc (Nat.le_refl _) _
  refine ⟨_, run_range_map w t k e r es clock ht hb, bel, h.below bel, by omega, es, clock, clock, #[], clock, (bel.block r hl).trans hb, hnd, hlt, heap_alloc_new w _, Nat.le_refl _, Nat.le_refl _, fun s => ?_⟩
  constructor
  · intro hf
    obtain ⟨v, hv⟩ := Option.isSome_iff_exists.1 hf
    obtain ⟨x, hx, hxs⟩ := h8 s v hv
    exact ⟨x, hx, hxs, by simp⟩
  · rintro ⟨x, hx, rfl, _⟩
    rw [(h4 x hx).2]; rfl

theorem Rg.kept {it : Nat} {L : Value → Prop} (h : Rg P k w r it n f L) (h1 : w'.heap[r]? = w.heap[r]?) (h2 : w'.heap[it]? = w.heap[it]?) : Rg P k w' r it n f L := by
  obtain ⟨a, b, es, clock, since, seen, c0, c1, c2, c3, c4, c5⟩ := h
  exact ⟨a.kept h1, b, es, clock, since, seen, c0, h1.trans c1, c2, c3, h2.trans c4, c5⟩
theorem Rg.lt {it : Nat} {L : Value → Prop} (h : Rg P k w r it n f L) : r < w.heap.size ∧ it < w.heap.size := by
  obtain ⟨a, b, es, clock, since, seen, c0, c1, c2, c3, c4, c5⟩ := h
  exact ⟨a.lt, (Array.getElem?_eq_some_iff.1 c4).1⟩

theorem but_setBlock (w : World) (b : Nat) (o : Obj) : But b w (setBlock w b o) := but_set w b o
theorem but_drew {b : Nat} (h : But b w.drew w') : But b w w' := ⟨h.os, h.tape, h.output, h.size, h.block⟩

/-- One step of the range. -/
theorem Rg.next {it : Nat} {L : Value → Prop} (h : Rg P k w r it n f L) (ty : TypeId) :
    ((∀ s, ¬ L s) ∧ (Instr.next (.pointer (some ⟨it, 0, none⟩)) false ty).run P w = .ok (.tuple #[.bool false]) w) ∨
    ∃ s v w', L s ∧ f s = some v ∧ (Instr.next (.pointer (some ⟨it, 0, none⟩)) false ty).run P w = .ok (.tuple #[.bool true, s, v]) w' ∧ (Instr.entry (.pointer (some ⟨it, 0, none⟩))).run P w' = .ok (.tuple #[s, v]) w' ∧
      But it w w' ∧ Rg P k w' r it n f (fun x => L x ∧ x ≠ s) ∧ leftN w' it < leftN w it := by
  obtain ⟨a, b, es, clock, since, seen, c0, c1, c2, c3, c4, c5, c7, c6⟩ := h
  obtain ⟨h4, _, _, h7, h8⟩ := a.found c1 (s := .nilIface)
  rcases run_next_at (P := P) w ty it r since c0 seen es clock c4 c1 c3 c5 with ⟨h0, hr⟩ | ⟨x, hx, w1, hw1, hr⟩
  · refine .inl ⟨fun s hL => ?_, hr⟩
    obtain ⟨y, hy, _, hyn⟩ := (c6 s).1 hL
    have : y ∈ leftOf es seen := by simp [leftOf, Array.mem_toList_iff.1 hy] at hyn ⊢; simpa using hyn
    have := Array.size_pos_of_mem this
    omega
  · have hx' : x ∈ es.toList ∧ seen.contains x.born = false := by
      simp only [leftOf, Array.mem_toList_iff, Array.mem_filter, Bool.not_eq_true'] at hx
      exact ⟨Array.mem_toList_iff.2 hx.1, hx.2⟩
    have hlt1 : it < w1.heap.size := by rcases hw1 with rfl | rfl <;> exact (Array.getElem?_eq_some_iff.1 c4).1
    have hbut : But it w (setBlock w1 it (.mapIter (some r) since (seen.push x.born) clock)) := by
      rcases hw1 with rfl | rfl
      · exact but_setBlock _ _ _
      · exact but_drew (but_setBlock _ _ _)
    have hit : (setBlock w1 it (.mapIter (some r) since (seen.push x.born) clock)).heap[it]? = some (.mapIter (some r) since (seen.push x.born) clock) := by simp [setBlock, hlt1]
    have hrr : (setBlock w1 it (.mapIter (some r) since (seen.push x.born) clock)).heap[r]? = some (.map es clock) := (hbut.block r b).trans c1
    have inj : ∀ y ∈ es.toList, y.born = x.born → y = x := by
      intro y hy e1
      have f1 := find_born y es.toList c2 hy
      have f2 := find_born x es.toList c2 hx'.1
      rw [e1, f2] at f1
      exact (Option.some.inj f1).symm
    have injk : ∀ y ∈ es.toList, y.key = x.key → y = x := by
      intro y hy e1
      obtain ⟨i, hi, rfl⟩ := List.getElem_of_mem hy
      obtain ⟨j, hj, ej⟩ := List.getElem_of_mem hx'.1
      by_cases hij : i = j
      · subst hij; exact ej
      · exfalso
        rw [← ej] at e1
        rcases Nat.lt_or_gt_of_ne hij with hlt' | hgt
        · exact (List.pairwise_iff_getElem.1 h7) i j hi hj hlt' e1
        · exact (List.pairwise_iff_getElem.1 h7) j i hj hi hgt e1.symm
    have hsc : ∀ s, (L s ∧ s ≠ x.key) ↔ ∃ y ∈ es.toList, y.key = s ∧ (seen.push x.born).contains y.born = false := by
      intro s
      constructor
      · rintro ⟨hL, hne⟩
        obtain ⟨y, hy, rfl, hyn⟩ := (c6 s).1 hL
        refine ⟨y, hy, rfl, ?_⟩
        simp only [Array.contains_push, Bool.or_eq_false_iff]
        refine ⟨hyn, ?_⟩
        simp only [beq_eq_false_iff_ne, ne_eq]
        intro e1
        exact hne (by rw [inj y hy (by first | exact e1 | exact e1.symm)])
      · rintro ⟨y, hy, rfl, hyn⟩
        simp only [Array.contains_push, Bool.or_eq_false_iff] at hyn
        refine ⟨(c6 _).2 ⟨y, hy, rfl, hyn.1⟩, fun e1 => ?_⟩
        rw [injk y hy e1] at hyn
        simp at hyn
    refine .inr ⟨x.key, x.val, _, (c6 _).2 ⟨x, hx'.1, rfl, hx'.2⟩, (h4 x hx'.1).2, hr, run_entry_at _ it r since seen es clock x hit hrr hx'.1 c2, hbut,
      ⟨a.but hbut b, b, es, clock, since, seen.push x.born, clock, hrr, c2, c3, hit, c7, c7, hsc⟩, ?_⟩
    · rw [leftN_eq hit hrr, leftN_eq c4 c1]
      have e1 : leftOf es (seen.push x.born) = (leftOf es seen).filter (fun y => !(y.born == x.born)) := by
        simp only [leftOf, Array.filter_filter, Array.contains_push, Bool.not_or]
        congr 1
        funext y
        rw [Bool.and_comm]
      have e2 : ((leftOf es seen).filter (fun y => !(y.born == x.born))).toList.length < (leftOf es seen).toList.length := by
        rw [Array.toList_filter]
        exact List.length_filter_lt_length_iff_exists.2 ⟨x, hx, by simp⟩
      rw [e1]
      simpa only [Array.length_toList] using e2

/-- The deletion of what has come out. -/
theorem Rg.drop {it : Nat} {L : Value → Prop} (h : Rg P k w r it n f L) (K : Keyed P k) (ht : P.underlying t = some (.map k e)) {s : Value} {l : Lit} (hkey : keyOf P k s = some l) (hL : ¬ L s) (ty : TypeId) :
    ∃ w' n', (Builtin.delete_ #[t, k] ty #[.map (some r), s]).run P w = .ok (.tuple #[]) w' ∧ But r w w' ∧ Rg P k w' r it n' (dropAt f s) L ∧ leftN w' it ≤ leftN w it := by
  obtain ⟨a, b, es, clock, since, seen, c0, c1, c2, c3, c4, c5, c7, c6⟩ := h
  obtain ⟨h4, h5, h6, h7, h8⟩ := a.found c1 (s := s)
  have hlt := a.lt
  obtain ⟨w2, hrun, hbut, hmp⟩ := a.drop K ht hkey ty
  have hit : w2.heap[it]? = some (.mapIter (some r) since seen c0) := (hbut.block it (Ne.symm b)).trans c4
  rcases K.find w hkey es.toList (fun x hx => (h4 x hx).1) with ⟨h1, h2⟩ | ⟨j, e0, h1, h2, h3⟩
  · have hrun' := hrun
    simp [Builtin.delete_, run_underlying ht, MapKept.run_getObj_map c1, K.check w _ hkey, h1, MapKept.run_setObj_map _ c1, Result.andThen] at hrun'
    have hr2 : w2.heap[r]? = some (.map es clock) := by rw [← hrun']; simp [hlt]
    exact ⟨w2, _, hrun, hbut, ⟨hmp, b, es, clock, since, seen, c0, hr2, c2, c3, hit, c5, c7, c6⟩, by rw [leftN_eq hit hr2, leftN_eq c4 c1]; exact Nat.le_refl _⟩
  · have hrun' := hrun
    simp [Builtin.delete_, run_underlying ht, MapKept.run_getObj_map c1, K.check w _ hkey, h1, MapKept.run_setObj_map _ c1, Result.andThen] at hrun'
    have hjl : j < es.toList.length := (List.getElem?_eq_some_iff.1 h2).1
    have hjs : j < es.size := by simpa using hjl
    have hsub : (es.eraseIdxIfInBounds j).toList = es.toList.eraseIdx j := by
      unfold Array.eraseIdxIfInBounds
      rw [dif_pos hjs]
      simp
    have hr2 : w2.heap[r]? = some (.map (es.eraseIdxIfInBounds j) clock) := by rw [← hrun']; simp [hlt]
    have hsl : (es.toList.eraseIdx j).Sublist es.toList := List.eraseIdx_sublist _ _
    refine ⟨w2, _, hrun, hbut, ⟨hmp, b, es.eraseIdxIfInBounds j, clock, since, seen, c0, hr2, ?_, ?_, hit, c5, c7, ?_⟩, ?_⟩
    · rw [hsub]; exact c2.sublist (hsl.map _)
    · intro x hx
      rw [hsub] at hx
      exact c3 x (hsl.subset hx)
    · intro s'
      rw [c6, hsub]
      constructor
      · rintro ⟨x, hx, rfl, hxn⟩
        refine ⟨x, ?_, rfl, hxn⟩
        obtain ⟨i, hi⟩ := List.mem_iff_getElem?.1 hx
        refine List.mem_eraseIdx_iff_getElem?.2 ⟨i, fun e1 => ?_, hi⟩
        subst e1
        rw [h2] at hi
        cases hi
        exact hL ((c6 s).2 ⟨e0, hx, h3, hxn⟩)
      · rintro ⟨x, hx, hxs⟩
        exact ⟨x, hsl.subset hx, hxs⟩
    · rw [leftN_eq hit hr2, leftN_eq c4 c1]
      have e2 : (leftOf (es.eraseIdxIfInBounds j) seen).toList.length ≤ (leftOf es seen).toList.length := by
        simp only [leftOf, Array.toList_filter]
        rw [hsub]
        exact (hsl.filter _).length_le
      simpa only [Array.length_toList] using e2
end
end Go.Proofs.Ybulketto
