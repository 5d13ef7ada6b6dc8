/-
  LawS7203CWhole: the index's rows: what the map of buckets holds while the elements are laid.
-/
import Derived.Test.YbulkesdoCKeep
import Derived.Laws.AppendOwn
namespace Go.Proofs.Ybulkesdo.C
open Go.RowKit Go.Maps Go.WideMaps Classical

theorem info43 : (Yba.prog.info? 43).map (fun i => (i.zero, i.size, i.bytes)) = some (some (.pointer none), 1, 8) := by kernel_rfl

/-- append(v, q), v a row of the call's own: behind it v' is one, in the same block or in a new one. -/
theorem append_node (w : World) (B0 : Nat) (v : Value) (n : Nat) (xs : List Value) (hown : w.ownsRow B0 43 1 v n xs) (a : Addr) (nd : Nat) (hq : w.cell? a = some (.pointer (some ⟨nd, 0, none⟩))) (hn : n ≤ 65536) (hb : B0 ≤ w.heap.size) :
    ∃ v' w', (∀ ty, (Builtin.append_ #[67, 67] ty #[v, .slice (some a) 1 1]).run Yba.prog w = .ok v' w') ∧ w'.ownsRow B0 43 1 v' (n + 1) (xs ++ [.pointer (some ⟨nd, 0, none⟩)]) ∧ w.grownBy w' v.ownBlock ∧ (v'.ownBlock = v.ownBlock ∨ v'.ownBlock = some w.heap.size) ∧ v'.ownBlock ≠ none := by
  obtain ⟨i, hi, he⟩ := Option.map_eq_some_iff.1 info43
  simp only [Prod.mk.injEq] at he
  obtain ⟨hz, hs, hby⟩ := he
  have hnews : ∀ j u, [(Value.pointer (some ⟨nd, 0, none⟩))][j]? = some u → w.cell? (a.add j) = some u := by
    intro j u hu
    match j, hu with
    | 0, hu =>
      simp at hu
      subst hu
      obtain ⟨b, o, sp⟩ := a
      obtain rfl : sp = none := World.cell?_spot hq
      simpa [Addr.add] using hq
  obtain ⟨v', w', hrun, h1, h2, h3⟩ := run_append_own (P := Yba.prog) w B0 67 0 43 i (.pointer none) 1 8 Yba.underlying67 hi hz hs hby rfl (by decide) v n xs hown a 1 1 [.pointer (some ⟨nd, 0, none⟩)] rfl hnews (by simp [Value.oneCell']) (by simp only [maxLen]; omega) (by omega) hb
  refine ⟨v', w', fun ty => hrun, h1, h2, ?_, ?_⟩
  · rcases hown.2 with ⟨rfl, rfl⟩ | ⟨g, cap, cur, rfl, hbg, hg, hnc, hcm, hcs, htake⟩
    · have := run_append_nil (P := Yba.prog) w 67 0 43 i (.pointer none) Yba.underlying67 hi hz a 1 1 [.pointer (some ⟨nd, 0, none⟩)] (by simp [hs]) hnews (by decide) (by decide) (by rw [hby]; decide)
      rw [hrun] at this
      simp only [Result.ok.injEq] at this
      rw [this.1]
      exact .inr rfl
    · by_cases hroom : n + 1 ≤ cap
      · have := run_append_room (P := Yba.prog) w 67 0 43 i Yba.underlying67 hi g n cap cur hg a 1 1 [.pointer (some ⟨nd, 0, none⟩)] (by simp [hs]) hnews (by simp [Value.oneCell']) hroom (by rw [hs]; simp; omega)
        rw [hrun] at this
        simp only [Result.ok.injEq] at this
        rw [this.1]
        exact .inl rfl
      · have := run_append_grow (P := Yba.prog) w 67 0 43 i (.pointer none) Yba.underlying67 hi hz ⟨g, 0, none⟩ n cap xs (by rw [hs]; exact hown.1) (hown.cells rfl) a 1 1 [.pointer (some ⟨nd, 0, none⟩)] (by simp [hs]) hnews (by omega) (by omega) (by rw [hby]; exact growslice_fits (by omega) (by omega))
        rw [hrun] at this
        simp only [Result.ok.injEq] at this
        rw [this.1]
        exact .inr rfl
  · rcases h1.2 with ⟨_, h⟩ | ⟨g, cap, cur, rfl, _⟩
    · omega
    · simp [Value.ownBlock]

/-- The index once k elements are laid: every bucket's row lists the nodes of its elements, in order; rows of two buckets lie in two blocks. -/
structure Rows (k : Nat) (K : Nat → Value) (nd : Nat → Nat) (B0 : Nat) (f : Value → Option Value) (w : World) : Prop where
  row : ∀ key, (f key = none ∧ ∀ j, j < k → K j ≠ key) ∨ ∃ (v : Value) (js : List Nat), f key = some v ∧ w.ownsRow B0 43 1 v js.length (js.map fun j => .pointer (some ⟨nd j, 0, none⟩)) ∧ js ≠ [] ∧ js.Pairwise (· < ·) ∧ ∀ j, j ∈ js ↔ j < k ∧ K j = key
  sep : ∀ key key' v v', key ≠ key' → f key = some v → f key' = some v' → v.ownBlock ≠ v'.ownBlock

theorem Rows.kept {k : Nat} {K : Nat → Value} {nd : Nat → Nat} {B0 : Nat} {f : Value → Option Value} {w w' : World} (h : Rows k K nd B0 f w) (hk : ∀ b, B0 ≤ b → b < w.heap.size → w'.heap[b]? = w.heap[b]?) : Rows k K nd B0 f w' := by
  refine ⟨fun key => ?_, h.sep⟩
  rcases h.row key with h1 | ⟨v, js, h1, h2, h3⟩
  · exact .inl h1
  · refine .inr ⟨v, js, h1, ⟨h2.1, ?_⟩, h3⟩
    rcases h2.2 with hn | ⟨g, cap, cur, e1, e2, e3, e4⟩
    · exact .inl hn
    · exact .inr ⟨g, cap, cur, e1, e2, (hk g e2 (Array.getElem?_eq_some_iff.1 e3).1).trans e3, e4⟩

/-- What the bucket of element k holds before it is laid. -/
theorem Rows.old {k : Nat} {K : Nat → Value} {nd : Nat → Nat} {B0 : Nat} {f : Value → Option Value} {w : World} (h : Rows k K nd B0 f w) (key : Value) :
    ∃ js : List Nat, w.ownsRow B0 43 1 ((f key).getD (.slice none 0 0)) js.length (js.map fun j => .pointer (some ⟨nd j, 0, none⟩)) ∧ js.Pairwise (· < ·) ∧ (∀ j, j ∈ js ↔ j < k ∧ K j = key) ∧ js.length ≤ k := by
  have hlen : ∀ js : List Nat, js.Pairwise (· < ·) → (∀ j, j ∈ js ↔ j < k ∧ K j = key) → js.length ≤ k := by
    intro js hp hm
    have := nodup_len js (List.range k) (by rw [List.nodup_iff_pairwise_ne]; exact hp.imp (fun h => by omega)) (fun x hx => by simp [((hm x).1 hx).1])
    simpa using this
  rcases h.row key with ⟨h1, h2⟩ | ⟨v, js, h1, h2, h3, h4, h5⟩
  · refine ⟨[], ?_, List.Pairwise.nil, fun j => ⟨(fun h => by cases h), (fun h => absurd h.2 (h2 j h.1))⟩, Nat.zero_le _⟩
    rw [h1]
    exact World.ownsRow_nil w B0 43 1
  · refine ⟨js, ?_, h4, h5, hlen js h4 h5⟩
    rw [h1]
    exact h2

/-- One element more: the row v' of its bucket stands behind the append. -/
theorem Rows.step {k : Nat} {K : Nat → Value} {nd : Nat → Nat} {B0 P : Nat} {f : Value → Option Value} {w w' : World} {v' : Value} {js : List Nat} (h : Rows k K nd B0 f w) (hw : World.grownBy w w' ((f (K k)).getD (.slice none 0 0)).ownBlock)
    (hjs : js.Pairwise (· < ·)) (hmem : ∀ j, j ∈ js ↔ j < k ∧ K j = K k) (hrow : w'.ownsRow B0 43 1 v' (js.length + 1) (js.map (fun j => Value.pointer (some ⟨nd j, 0, none⟩)) ++ [.pointer (some ⟨P, 0, none⟩)]))
    (hblk : v'.ownBlock = ((f (K k)).getD (.slice none 0 0)).ownBlock ∨ v'.ownBlock = some w.heap.size) :
    Rows (k + 1) K (fun j => if j = k then P else nd j) B0 (putAt f (K k) v') w' := by
  have hmap : ∀ l : List Nat, (∀ j, j ∈ l → j < k) → l.map (fun j => Value.pointer (some ⟨if j = k then P else nd j, 0, none⟩)) = l.map (fun j => Value.pointer (some ⟨nd j, 0, none⟩)) := by
    intro l hl
    apply List.map_congr_left
    intro j hj
    rw [if_neg (by have := hl j hj; omega)]
  -- a row of another bucket
  have other : ∀ key v, key ≠ K k → f key = some v → v.ownBlock ≠ v'.ownBlock ∧ (v.ownBlock = none ∨ v.ownBlock ≠ ((f (K k)).getD (.slice none 0 0)).ownBlock) := by
    intro key v hne hf
    have hlt : ∀ g, v.ownBlock = some g → g < w.heap.size := by
      intro g hg
      rcases h.row key with ⟨h1, _⟩ | ⟨v2, js2, h1, h2, _⟩
      · rw [h1] at hf; cases hf
      · rw [h1] at hf
        obtain rfl : v2 = v := by simpa using hf
        exact (h2.lt g hg).2
    have hsep : v.ownBlock ≠ ((f (K k)).getD (.slice none 0 0)).ownBlock ∨ (f (K k) = none) := by
      cases hfk : f (K k) with
      | none => exact .inr rfl
      | some u => exact .inl (h.sep key (K k) v u hne hf hfk)
    have hvs : v.ownBlock ≠ none := by
      rcases h.row key with ⟨h1, _⟩ | ⟨v2, js2, h1, h2, h3, _⟩
      · rw [h1] at hf; cases hf
      · rw [h1] at hf
        obtain rfl : v2 = v := by simpa using hf
        rcases h2.2 with ⟨_, hn⟩ | ⟨g, cap, cur, rfl, _⟩
        · exact absurd (List.eq_nil_of_length_eq_zero hn) h3
        · simp [Value.ownBlock]
    have h2 : v.ownBlock ≠ ((f (K k)).getD (.slice none 0 0)).ownBlock := by
      rcases hsep with h2 | h2
      · exact h2
      · rw [h2]; exact hvs
    refine ⟨?_, .inr h2⟩
    rcases hblk with hb | hb
    · rw [hb]; exact h2
    · rw [hb]
      intro he
      have := hlt _ he
      omega
  refine ⟨fun key => ?_, fun key key' v u hne hf hf' => ?_⟩
  · by_cases hk : key = K k
    · subst hk
      refine .inr ⟨v', js ++ [k], putAt_same _ _ _, ?_, by simp, ?_, fun j => ?_⟩
      · rw [List.map_append, hmap js (fun j hj => ((hmem j).1 hj).1)]
        simpa using hrow
      · rw [List.pairwise_append]
        exact ⟨hjs, by simp, fun a ha b hb => by simp at hb; subst hb; exact ((hmem a).1 ha).1⟩
      · rw [List.mem_append, hmem, List.mem_singleton]
        constructor
        · rintro (h1 | rfl)
          · exact ⟨by omega, h1.2⟩
          · exact ⟨by omega, rfl⟩
        · rintro ⟨h1, h2⟩
          by_cases hjk : j = k
          · exact .inr hjk
          · exact .inl ⟨by omega, h2⟩
    · rw [putAt_other _ _ hk]
      rcases h.row key with ⟨h1, h2⟩ | ⟨v, js2, h1, h2, h3, h4, h5⟩
      · refine .inl ⟨h1, fun j hj => ?_⟩
        by_cases hjk : j = k
        · subst hjk; exact fun h => hk h.symm
        · exact h2 j (by omega)
      · refine .inr ⟨v, js2, h1, ?_, h3, h4, fun j => ?_⟩
        · rw [hmap js2 (fun j hj => ((h5 j).1 hj).1)]
          exact h2.kept hw (other key v hk h1).2
        · rw [h5]
          constructor
          · rintro ⟨h6, h7⟩
            exact ⟨by omega, h7⟩
          · rintro ⟨h6, h7⟩
            refine ⟨?_, h7⟩
            by_cases hjk : j = k
            · subst hjk; exact absurd h7.symm hk
            · omega
  · by_cases hk : key = K k
    · subst hk
      rw [putAt_same] at hf
      rw [putAt_other _ _ (Ne.symm hne)] at hf'
      obtain rfl : v' = v := by simpa using hf
      exact fun he => (other key' u (Ne.symm hne) hf').1 he.symm
    · rw [putAt_other _ _ hk] at hf
      by_cases hk' : key' = K k
      · subst hk'
        rw [putAt_same] at hf'
        obtain rfl : v' = u := by simpa using hf'
        exact (other key v hk hf).1
      · rw [putAt_other _ _ hk'] at hf'
        exact h.sep key key' v u hne hf hf'

/-- The bucket of element t, as the search wants it. -/
theorem Rows.bucket {k : Nat} {K : Nat → Value} {nd p : Nat → Nat} {c : Nat → Int} {A : Nat → ByteArray} {B0 : Nat} {f : Value → Option Value} {w : World} (h : Rows k K nd B0 f w) (hk : k ≤ 65536) (hn : ∀ j, j < k → w.heap[nd j]? = some (.cells (nodeRow (c j) (A j) (p j)) 66 (0, 0)))
    (hinc : ∀ i j, i < j → j < k → c i < c j) {t : Nat} (ht : t < k) : ∃ g m cap q L cs, f (K t) = some (.slice (some ⟨g, 0, none⟩) m cap) ∧ Bucket g m cap L cs w ∧ q < m ∧ cs q = c t ∧ L q = nd t := by
  rcases h.row (K t) with ⟨_, h2⟩ | ⟨v, js, h1, h2, h3, h4, h5⟩
  · exact absurd rfl (h2 t ht)
  · have hlen : js.length ≤ k := by
      have := nodup_len js (List.range k) (by rw [List.nodup_iff_pairwise_ne]; exact h4.imp (fun h => by omega)) (fun x hx => by simp [((h5 x).1 hx).1])
      simpa using this
    obtain ⟨q, hq, hqt⟩ := List.getElem_of_mem ((h5 t).2 ⟨ht, rfl⟩)
    have hcell : ∀ g, v.ownBlock = some g → ∀ j u, (js.map fun j => Value.pointer (some ⟨nd j, 0, none⟩))[j]? = some u → w.cell? ((⟨g, 0, none⟩ : Addr).add j) = some u := fun g hg => h2.cells hg
    rcases h2.2 with ⟨_, hz⟩ | ⟨g, cap, cur, rfl, _⟩
    · exact absurd (List.eq_nil_of_length_eq_zero hz) h3
    · have get : ∀ i, i < js.length → js.getD i 0 < k ∧ js[i]? = some (js.getD i 0) := by
        intro i hi
        have e : js[i]? = some js[i] := List.getElem?_eq_getElem hi
        have e2 : js.getD i 0 = js[i] := by simp [List.getD, e]
        rw [e2]
        exact ⟨((h5 js[i]).1 (List.getElem_mem hi)).1, e⟩
      refine ⟨g, js.length, cap, q, fun i => nd (js.getD i 0), fun i => c (js.getD i 0), h1, ⟨by omega, fun i j hij hj => ?_, fun i hi => ?_, fun i hi => ?_, fun i hi => ?_⟩, hq, ?_, ?_⟩
      · have hi : i < js.length := by omega
        have := (List.pairwise_iff_getElem.1 h4) i j hi hj hij
        have e1 : js.getD i 0 = js[i] := by simp [List.getD, List.getElem?_eq_getElem hi]
        have e2 : js.getD j 0 = js[j] := by simp [List.getD, List.getElem?_eq_getElem hj]
        show c (js.getD i 0) < c (js.getD j 0)
        exact hinc _ _ (by rw [e1, e2]; exact this) (get j hj).1
      · have := hcell g rfl i (.pointer (some ⟨nd (js.getD i 0), 0, none⟩)) (by rw [List.getElem?_map, (get i hi).2]; rfl)
        have hadd : (⟨g, 0, none⟩ : Addr).add i = ⟨g, i, none⟩ := by unfold Addr.add; split <;> simp_all
        rw [hadd] at this
        exact this
      · rw [cell_row (hn _ (get i hi).1)]; rfl
      · rw [cell_row (hn _ (get i hi).1)]; rfl
      · show c (js.getD q 0) = c t
        have : js.getD q 0 = t := by rw [← hqt]; simp [List.getD, List.getElem?_eq_getElem hq]
        rw [this]
      · show nd (js.getD q 0) = nd t
        have : js.getD q 0 = t := by rw [← hqt]; simp [List.getD, List.getElem?_eq_getElem hq]
        rw [this]

end Go.Proofs.Ybulkesdo.C
