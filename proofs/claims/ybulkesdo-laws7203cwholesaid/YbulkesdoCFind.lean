/-
  LawS7203CWhole: the search: counters (52), firstCounter (29), BinarySearchFunc (28), bucketOf (27), the index's find (24), the sequence's find (20), node (15), elemOf (16), place (12).
-/
import Derived.Test.YbulkesdoCPlace
import Derived.Laws.ResultCell
namespace Go.Proofs.Ybulkesdo.C
open Go.RowKit Go.Maps Go.WideMaps
attribute [local go_sem ↓] Go.wp_at_zero Go.wp_at_succ

/-- A node of one element. -/
abbrev nodeRow (c : Int) (a : ByteArray) (p : Nat) : Array Value := #[.int .u64 c, .string a, .pointer (some ⟨p, 0, none⟩), .pointer none, .int .i32 1, .bool false, .pointer none]

set_option maxHeartbeats 400000 in
theorem counters_any (nd : Nat) (c : Int) (w : World) (h0 : w.cell? ⟨nd, 0, none⟩ = some (.int .u64 c)) (h4 : w.cell? ⟨nd, 4, none⟩ = some (.int .i32 1)) :
    Calls Yba.prog 52 #[.pointer (some ⟨nd, 0, none⟩)] w fun e w' => e = .returned (.tuple #[.int .u64 c, .int .i64 1]) ∧ Below w.heap.size w w' := by
  go_enter Yba.func52, Yba.ntmps52
  go_wp2_with fail
  go_quiet (fail)
  go_wp2_with fail
  go_ret2
  exact ⟨rfl, below_drewN (Below.refl _ _) _⟩

/-- cmp.Compare's answer. -/
def cmpS (x y : Int) : Int := if x < y then -1 else if y < x then 1 else 0
set_option maxHeartbeats 400000 in
set_option maxRecDepth 100000 in
theorem compare_any (x y : Int) (w : World) : Calls Yba.prog 33 #[.int .u64 x, .int .u64 y] w fun e w' => e = .returned (.int .i64 (cmpS x y)) ∧ w' = w := by
  rcases Int.lt_trichotomy x y with h | h | h
  · have hc : cmpS x y = -1 := by simp [cmpS, h]
    rw [hc]
    clear hc
    go_enter Yba.func33, Yba.ntmps33
    go_wp2
    go_ret
    exact ⟨rfl, rfl⟩
  · subst h
    have hc : cmpS x x = 0 := by simp [cmpS]
    rw [hc]
    clear hc
    go_enter Yba.func33, Yba.ntmps33
    go_wp2
    go_ret
    exact ⟨rfl, rfl⟩
  · have h2 : ¬ x < y := by omega
    have hc : cmpS x y = 1 := by simp [cmpS, h2, h]
    rw [hc]
    clear hc
    go_enter Yba.func33, Yba.ntmps33
    go_wp2
    go_ret
    exact ⟨rfl, rfl⟩

set_option maxHeartbeats 400000 in
set_option maxRecDepth 100000 in
theorem first_any (nd : Nat) (c x : Int) (w : World) (h0 : w.cell? ⟨nd, 0, none⟩ = some (.int .u64 c)) (h4 : w.cell? ⟨nd, 4, none⟩ = some (.int .i32 1)) :
    Calls Yba.prog 29 #[.pointer (some ⟨nd, 0, none⟩), .int .u64 x] w fun e w' => e = .returned (.int .i64 (cmpS c x)) ∧ Below w.heap.size w w' := by
  have HCT := hid (counters_any nd c w h0 h4)
  have hm : ∀ w : World, (method 263 43 (.pointer (some ⟨nd, 0, none⟩)) ("example.com" ++ toString '\x2f' ++ "syncline" ++ toString '\x2f' ++ "syncline.counters")).run Yba.prog w = .ok (52, .pointer (some ⟨nd, 0, none⟩)) w := fun w => by kernel_rfl
  simp only [Char.reduceToString, String.reduceAppend] at hm
  go_enter Yba.func29, Yba.ntmps29
  go_wp2_with fail
  refine HCT.out.mono ?_
  rintro e w2 ⟨rfl, hb2⟩
  have HB2 := hid hb2
  have HCM := hid (compare_any c x w2)
  clear hb2 HCT hm
  go_wp2_with fail
  refine HCM.out.mono ?_
  rintro e w3 ⟨rfl, rfl⟩
  go_wp2_with fail
  go_ret
  exact ⟨rfl, HB2.out⟩

set_option maxHeartbeats 2000000 in
set_option maxRecDepth 100000 in
theorem search_any (g n cap t : Nat) (L : Nat → Nat) (cs : Nat → Int) (w : World) (hn : n ≤ 65536) (ht : t < n) (hinc : ∀ i j, i < j → j < n → cs i < cs j)
    (hl : ∀ i, i < n → w.cell? ⟨g, i, none⟩ = some (.pointer (some ⟨L i, 0, none⟩))) (h0 : ∀ i, i < n → w.cell? ⟨L i, 0, none⟩ = some (.int .u64 (cs i))) (h4 : ∀ i, i < n → w.cell? ⟨L i, 4, none⟩ = some (.int .i32 1)) :
    Calls Yba.prog 28 #[.slice (some ⟨g, 0, none⟩) n cap, .int .u64 (cs t), .func (.func 29) #[] #[]] w fun e w' => e = .returned (.tuple #[.int .i64 (t : Int), .bool true]) ∧ Below w.heap.size w w' := by
  have HI := hid hinc
  have HL := hid hl
  have H0 := hid h0
  have H4 := hid h4
  clear hinc hl h0 h4
  go_enter Yba.func28, Yba.ntmps28
  go_wp2_with fail
  go_loopw [9, 10] (fun vi vj wr => ∃ i j : Nat, i ≤ t ∧ t ≤ j ∧ j ≤ n ∧ vi = .int .i64 i ∧ vj = .int .i64 j ∧ Below w.heap.size w wr) (fun vi vj _ => (intOf vj).toNat - (intOf vi).toNat)
  case atStart => exact ⟨0, n, Nat.zero_le _, by omega, Nat.le_refl _, rfl, rfl, Below.refl _ _⟩
  case round =>
    obtain ⟨i, j, hi, hj, hjn, rfl, rfl, hb⟩ := hrel
    by_cases hij : i < j
    · have hij' : (i : Int) < (j : Int) := by omega
      generalize hh : (i + j) / 2 = h
      have hhn : h < n := by omega
      have c1 := cell_later hb (HL.out h hhn)
      have HF := hid (first_any (L h) (cs h) (cs t) wr (cell_later hb (H0.out h hhn)) (cell_later hb (H4.out h hhn)))
      have hmid : ((i : Int) + (j : Int)) / 2 = (h : Int) := by omega
      have h0' : (0 : Int) ≤ (h : Int) := by omega
      have hn' : (h : Int) < (n : Int) := by omega
      have HB := hid hb
      clear hb
      by_cases hht : h < t
      · have hlt := HI.out h t hht ht
        have hcm : cmpS (cs h) (cs t) = -1 := by simp [cmpS, hlt]
        rw [hcm] at HF
        clear hcm hlt
        go_wp2_with fail
        refine HF.out.mono ?_
        rintro e w2 ⟨rfl, hb2⟩
        have HB2 := hid (HB.out.trans (hb2.mono HB.out.size))
        clear hb2 HF c1
        go_wp2_with fail
        go_roundw
        case rel => exact ⟨h + 1, j, by omega, by omega, by omega, by go_num, rfl, HB2.out⟩
        case measure => simp [intOf]; omega
      · have hge : ¬ cmpS (cs h) (cs t) < 0 := by
          have : ¬ cs h < cs t := by
            rcases Nat.lt_trichotomy t h with h1 | h1 | h1
            · have := HI.out t h h1 hhn; omega
            · subst h1; omega
            · omega
          unfold cmpS
          rw [if_neg this]
          split <;> omega
        generalize hcm : cmpS (cs h) (cs t) = cm at *
        clear hcm
        go_wp2_with fail
        refine HF.out.mono ?_
        rintro e w2 ⟨rfl, hb2⟩
        have HB2 := hid (HB.out.trans (hb2.mono HB.out.size))
        clear hb2 HF c1
        go_wp2_with fail
        go_roundw
        case rel => exact ⟨i, h, by omega, by omega, by omega, rfl, rfl, HB2.out⟩
        case measure => simp [intOf]; omega
    · have hij' : ¬ (i : Int) < (j : Int) := by omega
      obtain rfl : i = t := by omega
      have c1 := cell_later hb (HL.out i ht)
      have HF := hid (first_any (L i) (cs i) (cs i) wr (cell_later hb (H0.out i ht)) (cell_later hb (H4.out i ht)))
      have hcm : cmpS (cs i) (cs i) = 0 := by simp [cmpS]
      rw [hcm] at HF
      have h0' : (0 : Int) ≤ (i : Int) := by omega
      have hn' : (i : Int) < (n : Int) := by omega
      have HB := hid hb
      clear hb hcm
      go_wp2_with fail
      refine HF.out.mono ?_
      rintro e w2 ⟨rfl, hb2⟩
      have HB2 := hid (HB.out.trans (hb2.mono HB.out.size))
      clear hb2 HF c1
      go_wp2_with fail
      go_ret2
      exact ⟨rfl, HB2.out⟩

set_option maxHeartbeats 400000 in
set_option maxRecDepth 100000 in
theorem bucket_any (c : Int) (a : ByteArray) (w : World) (h0 : 0 ≤ c) (h1 : c < 18446744073709551616) :
    Calls Yba.prog 27 #[idV c a] w fun e w' => e = .returned (idV (c / 256) a) ∧ Below w.heap.size w w' := by
  have hd : IntKind.u64.wrap (c / 256) = c / 256 := by rw [IntKind.wrap_u64]; omega
  go_enter Yba.func27, Yba.ntmps27
  go_wp2_with fail
  obtain ⟨_, r2, r3, _⟩ := two_new w (.cells #[.int .u64 c, .string a] 60) (.cells #[.int .u64 (c / 256), .string a] 60)
  refine bodyPost_ret (results_cell_row (g := w.heap.size + 1) (t := 60) rfl _ _ _ (0, 0) _ rfl r2 Yba.underlying60 rfl (by kernel_rfl)) rfl ?_
  exact ⟨rfl, r3⟩

/-- What the index holds under a bucket: the nodes' blocks L, their counters cs, in order. -/
structure Bucket (g m cap : Nat) (L : Nat → Nat) (cs : Nat → Int) (w : World) : Prop where
  le : m ≤ 65536
  inc : ∀ i j, i < j → j < m → cs i < cs j
  ptr : ∀ i, i < m → w.cell? ⟨g, i, none⟩ = some (.pointer (some ⟨L i, 0, none⟩))
  cnt : ∀ i, i < m → w.cell? ⟨L i, 0, none⟩ = some (.int .u64 (cs i))
  one : ∀ i, i < m → w.cell? ⟨L i, 4, none⟩ = some (.int .i32 1)
theorem Bucket.below {g m cap : Nat} {L : Nat → Nat} {cs : Nat → Int} {w w' : World} (h : Bucket g m cap L cs w) (hb : Below w.heap.size w w') : Bucket g m cap L cs w' :=
  ⟨h.le, h.inc, fun i hi => cell_later hb (h.ptr i hi), fun i hi => cell_later hb (h.cnt i hi), fun i hi => cell_later hb (h.one i hi)⟩

theorem zero67 (w : World) : (zeroValue 67).run Yba.prog w = .ok (.slice none 0 0) w := by kernel_rfl

set_option maxHeartbeats 1000000 in
set_option maxRecDepth 100000 in
theorem index_any (I n : Nat) (f : Value → Option Value) (c : Int) (a : ByteArray) (g m cap t : Nat) (L : Nat → Nat) (cs : Nat → Int) (w : World) (h0 : 0 ≤ c) (h1 : c < 18446744073709551616) (ha : a.size ≤ Go.maxLen) (hm : Mp Yba.prog 60 w I n f)
    (hf : f (idV (c / 256) a) = some (.slice (some ⟨g, 0, none⟩) m cap)) (hb : Bucket g m cap L cs w) (ht : t < m) (hct : cs t = c) :
    Calls Yba.prog 24 #[.map (some I), idV c a] w fun e w' => e = .returned (.tuple #[.pointer (some ⟨L t, 0, none⟩), .bool true]) ∧ Below w.heap.size w w' := by
  obtain ⟨l, hk⟩ := key_id (c := c / 256) (a := a) (by omega) (by omega) ha
  have hlook : ∀ wz, Below w.heap.size w wz → (Instr.lookup 42 (.map (some I)) (.agg #[.int .u64 (c / 256), .string a]) false).run Yba.prog wz = .ok (.slice (some ⟨g, 0, none⟩) m cap) wz := fun wz hz => by
    have := (hm.below hz).look keyed Yba.underlying42 (zero67 wz) hk false
    rw [hf] at this
    simpa using this
  obtain ⟨q1, q2, q3⟩ := one_new w (.cells #[.int .u64 c, .string a] 60)
  have HBK : Hid (Calls Yba.prog 27 #[.agg #[.int .u64 c, .string a]] (w.alloc (.cells #[.int .u64 c, .string a] 60)) fun e w' => e = .returned (idV (c / 256) a) ∧ Below (w.alloc (.cells #[.int .u64 c, .string a] 60)).heap.size (w.alloc (.cells #[.int .u64 c, .string a] 60)) w') := bucket_any c a _ h0 h1
  have HQ1 := hid q1
  have HQ2 := hid q2
  have HLK := hid hlook
  have HBB := hid hb
  clear hlook q1 q2 q3 hb hm hf hk
  go_enter Yba.func24, Yba.ntmps24
  go_wp2_with fail
  refine HBK.out.mono ?_
  rintro e w2 ⟨rfl, hb2⟩
  have hb02 : Below w.heap.size w w2 := HQ2.out.trans (hb2.mono HQ2.out.size)
  have x2 := (hb2.block w.heap.size (by simp)).trans HQ1.out
  have bel3 : Below w2.heap.size w2 (w2.alloc (.cells #[.int .u64 (c / 256), .string a] 60)) := (Below.refl _ _).alloc (Nat.le_refl _) _
  have hb03 := hb02.trans (bel3.mono hb02.size)
  have x3 := (bel3.block w.heap.size (Array.getElem?_eq_some_iff.1 x2).1).trans x2
  have xc : (w2.alloc (.cells #[.int .u64 (c / 256), .string a] 60)).cell? ⟨w.heap.size, 0, none⟩ = some (.int .u64 c) := by rw [cell_row x3]; rfl
  have hlk := HLK.out _ hb03
  have HSE : Hid (Calls Yba.prog 28 #[.slice (some ⟨g, 0, none⟩) m cap, .int .u64 c, .func (.func 29) #[] #[]] (w2.alloc (.cells #[.int .u64 (c / 256), .string a] 60)) fun e w' => e = .returned (.tuple #[.int .i64 (t : Int), .bool true]) ∧ Below (w2.alloc (.cells #[.int .u64 (c / 256), .string a] 60)).heap.size (w2.alloc (.cells #[.int .u64 (c / 256), .string a] 60)) w') := by
    have hB := HBB.out.below hb03
    have := search_any g m cap t L cs _ hB.le ht hB.inc hB.ptr hB.cnt hB.one
    rw [hct] at this
    exact this
  have HB03 := hid hb03
  have hB3 := hid (HBB.out.below hb03)
  clear hb02 hb2 x2 bel3 hb03 x3 HBK
  go_wp2_with fail
  refine HSE.out.mono ?_
  rintro e w4 ⟨rfl, hb4⟩
  have p4 := (hB3.out.below hb4).ptr t ht
  have ht0 : (0 : Int) ≤ (t : Int) := by omega
  have ht1 : (t : Int) < (m : Int) := by omega
  have HB4 := hid (HB03.out.trans (hb4.mono HB03.out.size))
  clear hb4 HSE hlk xc
  go_wp2_with fail
  go_ret2
  exact ⟨rfl, HB4.out⟩

end Go.Proofs.Ybulkesdo.C
