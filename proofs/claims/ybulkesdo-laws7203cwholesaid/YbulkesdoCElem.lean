/-
  LawS7203CWhole: the sequence's find (20), node (15), elemOf (16), place (12).
-/
import Derived.Test.YbulkesdoCFind
namespace Go.Proofs.Ybulkesdo.C
open Go.RowKit Go.Maps Go.WideMaps
attribute [local go_sem ↓] Go.wp_at_zero Go.wp_at_succ

theorem res_cell_tmp {P : Program} {fn : Func} {p u : Tmp} {ty : TypeId} (h : fn.results = #[.cell p ty, .tmp u]) (tmps : Array Value) (w : World) (g : Nat) (t : TypeId) (cs : Array Value) (d : TypeDesc)
    (hp : tmps.getD p undef = .pointer (some ⟨g, 0, none⟩)) (hg : w.heap[g]? = some (.cells cs t (0, 0))) (hu : P.underlying ty = some d) (hd : (match d with | .struct _ | .array _ _ => true | _ => false) = true) (hi : (P.info? ty).map (·.size) = some cs.size) :
    (results fn tmps).run P w = .ok (.tuple #[.agg cs, tmps.getD u undef]) w := by
  rw [results_cell_tmp h, hp]
  simp [asAddr, run_loadVar_row w g t ty cs (0, 0) d hg hu hd hi, Result.andThen]

set_option maxHeartbeats 1000000 in
set_option maxRecDepth 100000 in
theorem seqfind_any (LB I n : Nat) (f : Value → Option Value) (c : Int) (a : ByteArray) (g m cap t : Nat) (L : Nat → Nat) (cs : Nat → Int) (w : World) (h0 : 0 ≤ c) (h1 : c < 18446744073709551616) (ha : a.size ≤ Go.maxLen) (hi : w.cell? ⟨LB, 3, none⟩ = some (.map (some I))) (hm : Mp Yba.prog 60 w I n f)
    (hf : f (idV (c / 256) a) = some (.slice (some ⟨g, 0, none⟩) m cap)) (hb : Bucket g m cap L cs w) (ht : t < m) (hct : cs t = c) :
    Calls Yba.prog 20 #[.pointer (some ⟨LB, 1, none⟩), idV c a] w fun e w' => e = .returned (.tuple #[.agg #[.pointer (some ⟨L t, 0, none⟩), .int .i64 0], .bool true]) ∧ Below w.heap.size w w' := by
  generalize hW1 : (w.alloc (.cells #[.int .u64 c, .string a] 60)).alloc (.cells #[.pointer none, .int .i64 0] 109) = w1
  obtain ⟨q1, q2, q3, q4⟩ := two_new w (.cells #[.int .u64 c, .string a] 60) (.cells #[.pointer none, .int .i64 0] 109)
  rw [hW1] at q1 q2 q3 q4
  have x0 : w1.cell? ⟨w.heap.size, 0, none⟩ = some (.int .u64 c) := by rw [cell_row q1]; rfl
  have x1 : w1.cell? ⟨w.heap.size, 1, none⟩ = some (.string a) := by rw [cell_row q1]; rfl
  have i1 := cell_later q3 hi
  have HIX : Hid (∀ wx, Below w1.heap.size w1 wx → Calls Yba.prog 24 #[.map (some I), .agg #[.int .u64 c, .string a]] wx fun e w' => e = .returned (.tuple #[.pointer (some ⟨L t, 0, none⟩), .bool true]) ∧ Below wx.heap.size wx w') := fun wx hx => by
    have h := q3.trans (hx.mono q3.size)
    exact index_any I n f c a g m cap t L cs wx h0 h1 ha (hm.below h) hf (hb.below h) ht hct
  have HQ2 := hid q2
  have HQ3 := hid q3
  have HBB := hid hb
  clear q1 q2 q3 q4 hm hf hb hi
  go_enter Yba.func20, Yba.ntmps20
  go_wp2_with fail
  go_region_held3 (fun w' => w'.cell? ⟨LB, 3, none⟩ = some (.map (some I)) ∧ w'.cell? ⟨w.heap.size, 0, none⟩ = some (.int .u64 c) ∧ w'.cell? ⟨w.heap.size, 1, none⟩ = some (.string a))
    (first | (go_keep; done)) (first | (go_at_call 24; refine (HIX.out _ ((Below.refl _ _).drew)).mono ?_; rintro e w9 ⟨rfl, hb9⟩; have hb9' := undrew hb9; have t1 := cell_later hb9' i1; have t2 := cell_later hb9' x0; have t3 := cell_later hb9' x1))
  have hb09 : Below w.heap.size w w9 := HQ3.out.trans (hb9'.mono HQ3.out.size)
  have r9 := (hb9'.block _ (Array.getElem?_eq_some_iff.1 HQ2.out).1).trans HQ2.out
  have c9 := (HBB.out.below hb09).cnt t ht
  rw [hct] at c9
  have e0 : w9.cell? ⟨w.heap.size + 1, 0, none⟩ = some (.pointer none) := by rw [cell_row r9]; rfl
  have e1 : w9.cell? ⟨w.heap.size + 1, 1, none⟩ = some (.int .i64 0) := by rw [cell_row r9]; rfl
  have f0 : w9.frozen? ⟨w.heap.size + 1, 0, none⟩ = false := free_row r9
  have f1 : w9.frozen? ⟨w.heap.size + 1, 1, none⟩ = false := free_row r9
  have HB09 := hid hb09
  have HR9 := hid r9
  have hcc : IntKind.u64.wrap (c - c) = 0 := by rw [IntKind.wrap_u64]; omega
  clear hb9 hb9' r9 hb09 t1 t3 HIX i1 x0 x1
  go_wp2_with fail
  go_region
  go_wp2_with fail
  refine bodyPost_ret (res_cell_tmp (g := w.heap.size + 1) (t := 109) rfl _ _ _ _ rfl (show (World.drew _).heap[_]? = _ from heap_put _ _ (heap_put _ _ HR9.out)) Yba.underlying109 rfl (by kernel_rfl)) rfl ?_
  exact ⟨rfl, ((HB09.out.setCell (by show w.heap.size ≤ w.heap.size + 1; omega) _).setCell (by show w.heap.size ≤ w.heap.size + 1; omega) _).drew⟩

set_option maxHeartbeats 1000000 in
set_option maxRecDepth 100000 in
theorem node_any (LB I n : Nat) (f : Value → Option Value) (c : Int) (a : ByteArray) (g m cap t : Nat) (L : Nat → Nat) (cs : Nat → Int) (w : World) (h0 : 0 ≤ c) (h1 : c < 18446744073709551616) (ha : a.size ≤ Go.maxLen) (hi : w.cell? ⟨LB, 3, none⟩ = some (.map (some I))) (hm : Mp Yba.prog 60 w I n f)
    (hf : f (idV (c / 256) a) = some (.slice (some ⟨g, 0, none⟩) m cap)) (hb : Bucket g m cap L cs w) (ht : t < m) (hct : cs t = c) :
    Calls Yba.prog 15 #[.pointer (some ⟨LB, 1, none⟩), idV c a] w fun e w' => e = .returned (.pointer (some ⟨L t, 0, none⟩)) ∧ Below w.heap.size w w' := by
  obtain ⟨_, q3, _⟩ := one_new w (.cells #[.int .u64 c, .string a] 60)
  have HSF : Hid (Calls Yba.prog 20 #[.pointer (some ⟨LB, 1, none⟩), .agg #[.int .u64 c, .string a]] (w.alloc (.cells #[.int .u64 c, .string a] 60)) fun e w' => e = .returned (.tuple #[.agg #[.pointer (some ⟨L t, 0, none⟩), .int .i64 0], .bool true]) ∧ Below (w.alloc (.cells #[.int .u64 c, .string a] 60)).heap.size (w.alloc (.cells #[.int .u64 c, .string a] 60)) w') :=
    seqfind_any LB I n f c a g m cap t L cs _ h0 h1 ha (cell_later q3 hi) (hm.below q3) hf (hb.below q3) ht hct
  have HQ3 := hid q3
  clear q3 hm hf hb hi
  go_enter Yba.func15, Yba.ntmps15
  go_wp2_with fail
  refine HSF.out.mono ?_
  rintro e w2 ⟨rfl, hb2⟩
  have HB2 := hid (HQ3.out.trans (hb2.mono HQ3.out.size))
  clear hb2 HSF
  go_wp2_with fail
  go_ret
  exact ⟨rfl, HB2.out.alloc HB2.out.size _⟩

theorem zero60 (w : World) : (zeroValue 60).run Yba.prog w = .ok (.agg #[.int .u64 0, .string ⟨#[]⟩]) w := by kernel_rfl

set_option maxHeartbeats 1000000 in
set_option maxRecDepth 100000 in
theorem elem_any (LB nd Mv : Nat) (c : Int) (a : ByteArray) (w : World) (h0 : 0 ≤ c) (h1 : c < 18446744073709551616) (ha : a.size ≤ Go.maxLen) (hv : w.cell? ⟨LB, 9, none⟩ = some (.map (some Mv))) (hm : Mp Yba.prog 60 w Mv 0 (fun _ => none)) (n0 : w.cell? ⟨nd, 0, none⟩ = some (.int .u64 c)) (n1 : w.cell? ⟨nd, 1, none⟩ = some (.string a)) :
    Calls Yba.prog 16 #[.pointer (some ⟨LB, 0, none⟩), .pointer (some ⟨nd, 0, none⟩)] w fun e w' => e = .returned (idV c a) ∧ Below w.heap.size w w' := by
  obtain ⟨q1, q2, q3⟩ := one_new w (.cells #[.int .u64 0, .string ⟨#[]⟩] 60)
  generalize hW1 : w.alloc (.cells #[.int .u64 0, .string ⟨#[]⟩] 60) = w1 at *
  obtain ⟨l, hk⟩ := key_id h0 h1 ha
  have hlk : (Instr.lookup 47 (.map (some Mv)) (.agg #[.int .u64 c, .string a]) true).run Yba.prog w1.drew = .ok (.tuple #[.agg #[.int .u64 0, .string ⟨#[]⟩], .bool false]) w1.drew := by
    have := ((hm.below q2).below ((Below.refl w1.heap.size w1).drew)).look keyed Yba.underlying47 (zero60 w1.drew) hk true
    simpa using this
  have v1 := cell_later q2 hv
  have m0 := cell_later q2 n0
  have m1 := cell_later q2 n1
  have bz : Below w1.heap.size w1 (w1.alloc (.cells #[.int .u64 0, .string ⟨#[]⟩] 60)) := (Below.refl _ _).alloc (Nat.le_refl _) _
  have hlk2 : (Instr.lookup 47 (.map (some Mv)) (.agg #[.int .u64 c, .string a]) true).run Yba.prog (w1.alloc (.cells #[.int .u64 0, .string ⟨#[]⟩] 60)).drew = .ok (.tuple #[.agg #[.int .u64 0, .string ⟨#[]⟩], .bool false]) (w1.alloc (.cells #[.int .u64 0, .string ⟨#[]⟩] 60)).drew := by
    have := (((hm.below q2).below bz).below ((Below.refl (w1.alloc (.cells #[.int .u64 0, .string ⟨#[]⟩] 60)).heap.size _).drew)).look keyed Yba.underlying47 (zero60 _) hk true
    simpa using this
  have v2 := cell_later bz v1
  have m2 := cell_later bz m0
  have m3 := cell_later bz m1
  have rz := (bz.block _ (Array.getElem?_eq_some_iff.1 q1).1).trans q1
  have e0 : (w1.alloc (.cells #[.int .u64 0, .string ⟨#[]⟩] 60)).cell? ⟨w.heap.size, 0, none⟩ = some (.int .u64 0) := by rw [cell_row rz]; rfl
  have e1 : (w1.alloc (.cells #[.int .u64 0, .string ⟨#[]⟩] 60)).cell? ⟨w.heap.size, 1, none⟩ = some (.string ⟨#[]⟩) := by rw [cell_row rz]; rfl
  have f0 : (w1.alloc (.cells #[.int .u64 0, .string ⟨#[]⟩] 60)).frozen? ⟨w.heap.size, 0, none⟩ = false := free_row rz
  have f1 : (w1.alloc (.cells #[.int .u64 0, .string ⟨#[]⟩] 60)).frozen? ⟨w.heap.size, 1, none⟩ = false := free_row rz
  have HRZ := hid rz
  have HBZ := hid (q2.trans (bz.mono q2.size))
  clear q1 q2 q3 hm hk hv n0 n1 bz rz
  go_enter Yba.func16, Yba.ntmps16
  go_wp2_with fail
  go_region
  all_goals
    go_wp2_with fail
    refine bodyPost_ret (results_cell_row (g := w.heap.size) (t := 60) rfl _ _ _ (0, 0) _ rfl (show (World.drew _).heap[_]? = _ from heap_put _ _ (heap_put _ _ HRZ.out)) Yba.underlying60 rfl (by kernel_rfl)) rfl ?_
    exact ⟨rfl, ((HBZ.out.setCell (Nat.le_refl _) _).setCell (Nat.le_refl _) _).drew⟩

/-- Whatever 'place' asks of the list's memory for the id (c, a), whose node is nd with the place p. -/
structure Elem (LB I Mv n : Nat) (f : Value → Option Value) (c : Int) (a : ByteArray) (nd p : Nat) (w : World) : Prop where
  lo : 0 ≤ c
  hi : c < 18446744073709551616
  sz : a.size ≤ Go.maxLen
  ix : w.cell? ⟨LB, 3, none⟩ = some (.map (some I))
  mv : w.cell? ⟨LB, 9, none⟩ = some (.map (some Mv))
  mp : Mp Yba.prog 60 w I n f
  mq : Mp Yba.prog 60 w Mv 0 (fun _ => none)
  bk : ∃ g m cap t L cs, f (idV (c / 256) a) = some (.slice (some ⟨g, 0, none⟩) m cap) ∧ Bucket g m cap L cs w ∧ t < m ∧ cs t = c ∧ L t = nd
  id : w.cell? ⟨nd, 0, none⟩ = some (.int .u64 c)
  ac : w.cell? ⟨nd, 1, none⟩ = some (.string a)
  vl : w.cell? ⟨nd, 2, none⟩ = some (.pointer (some ⟨p, 0, none⟩))
theorem Elem.below {LB I Mv n : Nat} {f : Value → Option Value} {c : Int} {a : ByteArray} {nd p : Nat} {w w' : World} (h : Elem LB I Mv n f c a nd p w) (hb : Below w.heap.size w w') : Elem LB I Mv n f c a nd p w' := by
  obtain ⟨g, m, cap, t, L, cs, b1, b2, b3, b4, b5⟩ := h.bk
  exact ⟨h.lo, h.hi, h.sz, cell_later hb h.ix, cell_later hb h.mv, h.mp.below hb, h.mq.below hb, ⟨g, m, cap, t, L, cs, b1, b2.below hb, b3, b4, b5⟩, cell_later hb h.id, cell_later hb h.ac, cell_later hb h.vl⟩

set_option maxHeartbeats 1000000 in
set_option maxRecDepth 100000 in
theorem listplace_any (LB I Mv n : Nat) (f : Value → Option Value) (c : Int) (a : ByteArray) (nd p : Nat) (w : World) (h : Elem LB I Mv n f c a nd p w) :
    Calls Yba.prog 12 #[.pointer (some ⟨LB, 0, none⟩), idV c a] w fun e w' => e = .returned (.pointer (some ⟨p, 0, none⟩)) ∧ Below w.heap.size w w' := by
  generalize hW1 : w.alloc (.cells #[.int .u64 c, .string a] 60) = w1
  obtain ⟨q1, q2, q3⟩ := one_new w (.cells #[.int .u64 c, .string a] 60)
  rw [hW1] at q1 q2 q3
  have x0 : w1.cell? ⟨w.heap.size, 0, none⟩ = some (.int .u64 c) := by rw [cell_row q1]; rfl
  have x1 : w1.cell? ⟨w.heap.size, 1, none⟩ = some (.string a) := by rw [cell_row q1]; rfl
  have HND : Hid (∀ wx, Below w1.heap.size w1 wx → Calls Yba.prog 15 #[.pointer (some ⟨LB, 1, none⟩), .agg #[.int .u64 c, .string a]] wx fun e w' => e = .returned (.pointer (some ⟨nd, 0, none⟩)) ∧ Below wx.heap.size wx w') := fun wx hx => by
    have hw := h.below (q2.trans (hx.mono q2.size))
    obtain ⟨g, m, cap, t, L, cs, b1, b2, b3, b4, b5⟩ := hw.bk
    have := node_any LB I n f c a g m cap t L cs wx hw.lo hw.hi hw.sz hw.ix hw.mp b1 b2 b3 b4
    rw [b5] at this
    exact this
  have HEL : Hid (∀ wx, Below w1.heap.size w1 wx → Calls Yba.prog 16 #[.pointer (some ⟨LB, 0, none⟩), .pointer (some ⟨nd, 0, none⟩)] wx fun e w' => e = .returned (idV c a) ∧ Below wx.heap.size wx w') := fun wx hx => by
    have hw := h.below (q2.trans (hx.mono q2.size))
    exact elem_any LB nd Mv c a wx hw.lo hw.hi hw.sz hw.mv hw.mq hw.id hw.ac
  have HH := hid h
  have HQ2 := hid q2
  clear h q1 q2 q3
  go_enter Yba.func12, Yba.ntmps12
  go_wp2_with fail
  go_region_held3 (fun w' => w'.cell? ⟨w.heap.size, 0, none⟩ = some (.int .u64 c) ∧ w'.cell? ⟨w.heap.size, 1, none⟩ = some (.string a))
    (first | (go_keep; done)) (first | (go_at_call 15; refine (HND.out _ ((Below.refl _ _).drew)).mono ?_; rintro e w9 ⟨rfl, hb9⟩; have hb9' := undrew hb9; have t1 := cell_later hb9' x0; have t2 := cell_later hb9' x1))
  have HB9 := hid hb9'
  clear hb9 hb9' x0 x1 HND
  have eq := eq60 c c a a
  have eqt : ((c == c) && (a.toList == a.toList)) = true := by simp
  rw [eqt] at eq
  go_wp2_with fail
  go_region_held3 (fun w' => w'.cell? ⟨w.heap.size, 0, none⟩ = some (.int .u64 c) ∧ w'.cell? ⟨w.heap.size, 1, none⟩ = some (.string a))
    (first | (go_keep; done)) (first | (go_at_call 16; refine (HEL.out _ (HB9.out.drew)).mono ?_; rintro e w8 ⟨rfl, hb8⟩; have hb8' := undrew hb8; have t3 := cell_later hb8' t1; have t4 := cell_later hb8' t2))
  have hb18 : Below w1.heap.size w1 w8 := HB9.out.trans (hb8'.mono HB9.out.size)
  have hb08 : Below w.heap.size w w8 := HQ2.out.trans (hb18.mono HQ2.out.size)
  have v8 := (HH.out.below hb08).vl
  have HB8 := hid hb08
  clear hb8 hb8' hb18 hb08 t1 t2 t3 t4 HEL eq eqt
  go_wp2_with fail
  go_ret
  exact ⟨rfl, HB8.out⟩

end Go.Proofs.Ybulkesdo.C
