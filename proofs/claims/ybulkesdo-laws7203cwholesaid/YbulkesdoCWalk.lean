/-
  LawS7203CWhole: the walk.
-/
import Derived.Test.YbulkesdoCStep
namespace Go.Proofs.Ybulkesdo.C
open Go.RowKit Go.Maps Go.WideMaps Classical

/-- append under a name that the walk leaves shut: a hypothesis says what it answers. -/
def shutAppend (ats : Array TypeId) (ty : TypeId) (args : Array Value) : Sem Value := Builtin.append_ ats ty args
theorem append_shut (ats : Array TypeId) (ty : TypeId) (args : Array Value) : Builtin.append_ ats ty args = shutAppend ats ty args := rfl
attribute [local go_sem ↓] Go.wp_at_zero Go.wp_at_succ append_shut

theorem eq68 (fn : Fn) (a b : Array Value) (w : World) : (binOp .eql 68 (.func fn a b) .nilFunc).run Yba.prog w = .ok (.bool false) w := by
  have h : ∀ d : Nat, (Op.equalIn (d + 1) 68 (.func fn a b) .nilFunc).run Yba.prog w = .ok false w := fun d => by simp [Op.equalIn, run_underlying Yba.underlying68]
  simp only [binOp]
  simp [Op.equal, Op.maxDepth, h 9999]
theorem eq68n (w : World) : (binOp .eql 68 .nilFunc .nilFunc).run Yba.prog w = .ok (.bool true) w := by
  have h : ∀ d : Nat, (Op.equalIn (d + 1) 68 .nilFunc .nilFunc).run Yba.prog w = .ok true w := fun d => by simp [Op.equalIn, run_underlying Yba.underlying68]
  simp only [binOp]
  simp [Op.equal, Op.maxDepth, h 9999]

theorem list_inj {a b : ByteArray} (h : a.toList = b.toList) : a = b := by
  rw [ByteArray.toList_eq, ByteArray.toList_eq] at h
  cases a; cases b
  simpa using h

/-- What loop 4 finds: whether the last element of this id shows. -/
def wantOf (c : Nat → Int) (A : Nat → ByteArray) (S : Nat → Bool) (q : Int) (a : ByteArray) : Nat → Bool
  | 0 => false
  | i + 1 => if (c i == q) && ((A i).toList == a.toList) then S i else wantOf c A S q a i

theorem own_want {N : Nat} {c : Nat → Int} {A : Nat → ByteArray} {S : Nat → Bool} (q : Int) (a : ByteArray) (hinj : ∀ i j, i < N → j < N → c i = c j → i = j) :
    (ownOf N c A S (fun _ => True) (idV q a)).getD (.bool false) = .bool (wantOf c A S q a N) := by
  have none_ : ∀ n, (∀ i, i < n → ¬ (c i = q ∧ A i = a)) → wantOf c A S q a n = false := by
    intro n
    induction n with
    | zero => intro _; rfl
    | succ n ih =>
      intro h
      have h1 := h n (by omega)
      have : ((c n == q) && ((A n).toList == a.toList)) = false := by
        cases h2 : ((c n == q) && ((A n).toList == a.toList)) with
        | false => rfl
        | true => simp at h2; exact absurd ⟨h2.1, list_inj h2.2⟩ h1
      simp only [wantOf, this]
      exact ih fun i hi => h i (by omega)
  have one_ : ∀ n i, i < n → n ≤ N → c i = q → A i = a → wantOf c A S q a n = S i := by
    intro n
    induction n with
    | zero => intro i hi; omega
    | succ n ih =>
      intro i hi hn h1 h2
      by_cases hin : i = n
      · subst hin
        simp [wantOf, h1, h2]
      · have h3 : ((c n == q) && ((A n).toList == a.toList)) = false := by
          have : c n ≠ q := fun h => hin (hinj i n (by omega) (by omega) (h1.trans h.symm))
          simp [this]
        simp only [wantOf, h3]
        exact ih i (by omega) (by omega) h1 h2
  unfold ownOf
  by_cases hex : ∃ i, i < N ∧ c i = q ∧ A i = a
  · obtain ⟨i, hi, h1, h2⟩ := hex
    rw [one_ N i hi (Nat.le_refl _) h1 h2]
    cases hS : S i
    · rw [if_neg]
      · rfl
      · rintro ⟨⟨j, hj, he, hs⟩, _⟩
        have hcj : q = c j := by simp at he; exact he.1
        have := hinj i j hi hj (h1.trans hcj)
        subst this
        rw [hS] at hs
        cases hs
    · rw [if_pos ⟨⟨i, hi, by rw [h1, h2], hS⟩, trivial⟩]
      rfl
  · rw [none_ N fun i hi h => hex ⟨i, hi, h⟩, if_neg]
    · rfl
    · rintro ⟨⟨j, hj, he, hs⟩, _⟩
      have : q = c j ∧ a = A j := by simpa using he
      exact hex ⟨j, hj, this.1.symm, this.2.symm⟩

theorem own_self {N : Nat} {c : Nat → Int} {A : Nat → ByteArray} {S : Nat → Bool} {j : Nat} (hj : j < N) (hinj : ∀ i j, i < N → j < N → c i = c j → i = j) :
    (ownOf N c A S (fun _ => True) (idV (c j) (A j))).getD (.bool false) = .bool (S j) := by
  unfold ownOf
  cases hS : S j
  · rw [if_neg]
    · rfl
    · rintro ⟨⟨i, hi, he, hs⟩, _⟩
      have hcj : c j = c i := by simp at he; exact he.1
      have := hinj j i hj hi hcj
      subst this
      rw [hS] at hs
      cases hs
  · rw [if_pos ⟨⟨j, hj, rfl, hS⟩, trivial⟩]
    rfl
theorem cAt_inj {s : Int} {gap : Nat → Int} {i j : Nat} (h : cAt s gap (i + 1) = cAt s gap (j + 1)) : i = j := by
  rcases Nat.lt_trichotomy i j with h1 | h1 | h1
  · have := cAt_lt s gap (show i + 1 < j + 1 by omega); omega
  · exact h1
  · have := cAt_lt s gap (show j + 1 < i + 1 by omega); omega

set_option maxHeartbeats 4000000 in
set_option maxRecDepth 100000 in
theorem lawC_walk (all : Bool) (start : Int) (ia : Option Addr) (ib io N ic : Nat) (gap act knd : Nat → Int) (qa : Option Addr) (qb qo Q qc : Nat) (qn qact : Nat → Int) (w : World) (hN : N + Q ≤ 65536) (hs0 : 0 ≤ start) (hs1 : start < 18446744073709551616) (hia : 0 < N → ia = some ⟨ib, io, none⟩) (hqa : 0 < Q → qa = some ⟨qb, qo, none⟩)
    (h0 : ∀ i, i < N → w.cell? ⟨ib, io + i * 3, none⟩ = some (.int .u8 (gap i))) (h1 : ∀ i, i < N → w.cell? ⟨ib, io + i * 3 + 1, none⟩ = some (.int .u8 (act i))) (h2 : ∀ i, i < N → w.cell? ⟨ib, io + i * 3 + 2, none⟩ = some (.int .u8 (knd i)))
    (hg : ∀ i, i < N → 0 ≤ gap i ∧ gap i ≤ 255) (ha : ∀ i, i < N → 0 ≤ act i ∧ act i ≤ 255) (hk : ∀ i, i < N → 0 ≤ knd i ∧ knd i ≤ 255)
    (q0 : ∀ i, i < Q → w.cell? ⟨qb, qo + i * 2, none⟩ = some (.int .u64 (qn i))) (q1 : ∀ i, i < Q → w.cell? ⟨qb, qo + i * 2 + 1, none⟩ = some (.int .u8 (qact i))) (hq0 : ∀ i, i < Q → 0 ≤ qn i ∧ qn i < 18446744073709551616) (hq1 : ∀ i, i < Q → 0 ≤ qact i ∧ qact i ≤ 255) :
    Calls Yba.prog 4 #[.bool all, .int .u64 start, .slice ia N ic, .slice qa Q qc] w fun e w' => e = .returned (.bool true) ∧ Below w.heap.size w w' := by
  have hl : ¬ ((65536 : Int) < (N : Int) + (Q : Int)) := by omega
  have hw : IntKind.i64.wrap ((N : Int) + (Q : Int)) = (N : Int) + (Q : Int) := by rw [IntKind.wrap_i64]; omega
  have HIA := hid hia
  have HQA := hid hqa
  have H0 := hid h0
  have H1 := hid h1
  have H2 := hid h2
  have HG := hid hg
  have HA := hid ha
  have HK := hid hk
  have Q0 := hid q0
  have Q1 := hid q1
  have HQ0 := hid hq0
  have HQ1 := hid hq1
  clear hia hqa h0 h1 h2 hg ha hk q0 q1 hq0 hq1
  obtain ⟨ZI, hZI, hmi⟩ := make_ids N (by omega)
  obtain ⟨ZS, hZS, hms⟩ := make_shows N (by omega)
  have hmm := make42
  have HZI := hid hZI
  have HZS := hid hZS
  clear hZI hZS
  generalize hst : start % 1099511627776 = s0
  have hs2 : 0 ≤ s0 ∧ s0 < 1099511627776 := by omega
  go_enter Yba.func4, Yba.ntmps4
  go_wp2_with fail
  obtain ⟨hbs, hls⟩ := lay_start w N (fun i => cAt s0 gap (i + 1)) (fun i => actorS (act i)) (fun i => showS (knd i)) ZI ZS HZI.out HZS.out
  have HBS := hid hbs
  have HLS := hid hls
  clear hbs hls hmi hms hmm
  generalize hW0 : w.heap.size = W0 at *
  go_loopw [12, 47] (fun v i wr => ∃ k : Nat, k ≤ N ∧ i = .int .i64 k ∧ v = .int .u64 (cAt s0 gap k) ∧ Below W0 w wr ∧ ∃ f fm ni mo mv nd p lo hi, LayD W0 k N (fun i => cAt s0 gap (i + 1)) (fun i => actorS (act i)) (fun i => showS (knd i)) f fm ni mo mv nd p lo hi wr) (fun _ i _ => N - (intOf i).toNat)
  case atStart => exact ⟨0, Nat.zero_le _, rfl, rfl, HBS.out, _, _, _, _, _, _, _, _, _, HLS.out⟩
  case round =>
    obtain ⟨k, hkN, rfl, rfl, hb, f, fm, ni, mo, mv, nd, p, lo, hi, hlay⟩ := hrel
    clear HBS HLS
    have HB := hid (show Below w.heap.size w wr by rw [hW0]; exact hb)
    have HL := hid hlay
    clear hb hlay
    by_cases hkl : k < N
    · have hkl' : (k : Int) < (N : Int) := by omega
      have hk0 : (0 : Int) ≤ (k : Int) := by omega
      obtain rfl := HIA.out (by omega)
      have s0' := cell_later HB.out (H0.out k hkl)
      have s1' := cell_later HB.out (H1.out k hkl)
      have s2' := cell_later HB.out (H2.out k hkl)
      obtain ⟨g0, g1⟩ := HG.out k hkl
      obtain ⟨a0, a1⟩ := HA.out k hkl
      obtain ⟨k0, k1⟩ := HK.out k hkl
      have hcb := cAt_le s0 gap k
      have hcn : cAt s0 gap (k + 1) = cAt s0 gap k + (1 + gap k % 5) := rfl
      generalize hck : cAt s0 gap k = ck at *
      generalize hcx : cAt s0 gap (k + 1) = cx at *
      have hg5 : 0 ≤ gap k % 5 ∧ gap k % 5 < 5 := by omega
      have HAC : Hid (∀ wx, Calls Yba.prog 8 #[.int .u8 (act k)] wx fun e w' => e = .returned (.string (actorS (act k))) ∧ w' = wx) := fun wx => actor_any (act k) wx a0 a1
      have HPL : Hid (∀ wx, Calls Yba.prog 9 #[.int .u8 (knd k)] wx fun e w' => PlaceOut (knd k) wx e w') := fun wx => place_any (knd k) wx k0 k1
      have hcn' : ck + (1 + gap k % 5) = cx := hcn.symm
      have hcx0 : 0 ≤ cx ∧ cx < 18446744073709551616 := by omega
      clear hcn
      go_wp2_with fail
      refine (HAC.out _).mono ?_
      rintro e w2 ⟨rfl, rfl⟩
      clear HAC
      go_wp2_with fail
      refine (HPL.out _).mono ?_
      rintro e w3 ⟨pk, rfl, hb3, hpk1, hpk2, hpd⟩
      have HB3 := hid hb3
      have HPD := hid hpd
      generalize hA : actorS (act k) = ak at *
      generalize hS : showS (knd k) = sk at *
      obtain ⟨t1, t2, t3, t4⟩ := two_new wr (.cells #[.int .u8 (gap k), .int .u8 (act k), .int .u8 (knd k)] 57) (.cells #[.int .u64 cx, .string ak] 60)
      have hbr3 : Below wr.heap.size wr w3 := t3.trans (hb3.mono t3.size)
      have HBR3 := hid hbr3
      have xr3 := (hb3.block (wr.heap.size + 1) (by rw [t4]; omega)).trans t2
      have x0 : w3.cell? ⟨wr.heap.size + 1, 0, none⟩ = some (.int .u64 cx) := by rw [cell_row xr3]; rfl
      have x1 : w3.cell? ⟨wr.heap.size + 1, 1, none⟩ = some (.string ak) := by rw [cell_row xr3]; rfl
      have szr := HL.out.sz
      have ids3 := HL.out.ids.kept (hbr3.block (W0 + 1 + 1) (by omega))
      have shw3 := HL.out.shw.kept (hbr3.block (W0 + 1 + 1 + 1) (by omega))
      obtain ⟨⟨u1, i1⟩, ⟨u2, i2⟩, i3⟩ := ids3.room hkl
      obtain ⟨⟨u3, j1⟩, j3⟩ := shw3.room hkl
      have i4 := i3 (k * 2)
      have i5 := i3 (k * 2 + 1)
      have j4 := j3 k
      have hneX : ¬ (W0 + 1 + 1 = wr.heap.size + 1) := by omega
      have HIDS3 := hid ids3
      have HSHW3 := hid shw3
      have HXR3 := hid xr3
      have hs43 : wr.heap.size + 1 + 1 ≤ w3.heap.size := by have := hb3.size; rw [t4] at this; exact this
      clear hb3 hpd t1 t2 t3 t4 hbr3 xr3 ids3 shw3 i3 j3 HPL
      go_upto_region 16 with fail
      generalize hW4 : ((w3.setCell ⟨W0 + 1 + 1, k * 2, none⟩ (.int .u64 cx)).setCell ⟨W0 + 1 + 1, k * 2 + 1, none⟩ (.string ak)).setCell ⟨W0 + 1 + 1 + 1, k, none⟩ (.bool sk) = w4
      have HOS4 : Hid (w4.os = w3.os ∧ w4.tape = w3.tape ∧ w4.output = w3.output) := by rw [← hW4]; exact ⟨rfl, rfl, rfl⟩
      have far4 : ∀ b, b ≠ W0 + 1 + 1 → b ≠ W0 + 1 + 1 + 1 → w4.heap[b]? = w3.heap[b]? := fun b h1 h2 => by rw [← hW4, heap_far _ _ h2, heap_far _ _ h1, heap_far _ _ h1]
      have sz4 : w4.heap.size = w3.heap.size := by rw [← hW4]; simp [World.setCell]
      have ids4 : Ids N (k + 1) (W0 + 1 + 1) (fun i => cAt s0 gap (i + 1)) (fun i => actorS (act i)) w4 := by
        have := HIDS3.out.step hkl
        simp only [hcx, hA] at this
        rw [← hW4]
        exact this.kept (heap_far _ _ (by omega))
      have shw4 : Shw N (k + 1) (W0 + 1 + 1 + 1) (fun i => showS (knd i)) w4 := by
        have h5 : Shw N k (W0 + 1 + 1 + 1) (fun i => showS (knd i)) ((w3.setCell ⟨W0 + 1 + 1, k * 2, none⟩ (.int .u64 cx)).setCell ⟨W0 + 1 + 1, k * 2 + 1, none⟩ (.string ak)) := HSHW3.out.kept ((heap_far _ _ (by omega)).trans (heap_far _ _ (by omega)))
        have := h5.step hkl
        simp only [hS] at this
        rw [← hW4]
        exact this
      generalize hND : w3.heap.size = ND at *
      generalize hW5 : w4.alloc (.cells #[.int .u64 cx, .string ak, .pointer (some ⟨pk, 0, none⟩), .pointer none, .int .i32 1, .bool false, .pointer none] 66) = w5
      have bel5 : Below w4.heap.size w4 w5 := by rw [← hW5]; exact (Below.refl _ _).alloc (Nat.le_refl _) _
      have nr5 : w5.heap[ND]? = some (.cells (nodeRow cx ak pk) 66 (0, 0)) := by rw [← hW5, ← sz4]; exact heap_alloc_new w4 _
      have sz5 : w5.heap.size = ND + 1 := by rw [← hW5]; simp [sz4]
      have xr5 : w5.heap[wr.heap.size + 1]? = some (.cells #[.int .u64 cx, .string ak] 60 (0, 0)) := (bel5.block _ (by omega)).trans ((far4 _ (by omega) (by omega)).trans HXR3.out)
      have y0 : w5.cell? ⟨wr.heap.size + 1, 0, none⟩ = some (.int .u64 cx) := by rw [cell_row xr5]; rfl
      have y1 : w5.cell? ⟨wr.heap.size + 1, 1, none⟩ = some (.string ak) := by rw [cell_row xr5]; rfl
      have HFAR4 := hid far4
      have HIDS4 := hid ids4
      have HSHW4 := hid shw4
      have HB5 := hid bel5
      have HNR5 := hid nr5
      have HXR5 := hid xr5
      clear far4 ids4 shw4 bel5 nr5 xr5 hW4 hW5 x0 x1 i1 i2 i4 i5 j1 j4 HIDS3 HSHW3 HXR3
      go_upto_region 17 with fail
      generalize hW6 : w5.alloc (.cells #[.int .u64 (cx / 256), .string ak] 60) = w6
      have bel6 : Below w5.heap.size w5 w6 := by rw [← hW6]; exact (Below.refl _ _).alloc (Nat.le_refl _) _
      have br6 : w6.heap[ND + 1]? = some (.cells #[.int .u64 (cx / 256), .string ak] 60 (0, 0)) := by rw [← hW6, ← sz5]; exact heap_alloc_new w5 _
      have sz6 : w6.heap.size = ND + 1 + 1 := by rw [← hW6]; simp [sz5]
      -- from the round's start to here: nothing old turns but the two slices
      have old6 : ∀ b, b < wr.heap.size → b ≠ W0 + 1 + 1 → b ≠ W0 + 1 + 1 + 1 → w6.heap[b]? = wr.heap[b]? := fun b hb h1 h2 =>
        (bel6.block b (by have := HBR3.out.size; omega)).trans ((HB5.out.block b (by have := HBR3.out.size; omega)).trans ((HFAR4.out b h1 h2).trans (HBR3.out.block b hb)))
      have hsr3 := HBR3.out.size
      have row6 : w6.heap[W0 + 1]? = some (.cells (lrow W0 mo mv) 54 (0, 0)) := (old6 _ (by omega) (by omega) (by omega)).trans HL.out.row
      have ix6 := HL.out.ix.kept (old6 W0 (by omega) (by omega) (by omega))
      have ist6 := HL.out.ist.kept (old6 W0 (by omega) (by omega) (by omega))
      have rows6 := HL.out.rows.kept (fun b h1 h2 => old6 b h2 (by omega) (by omega))
      -- the slice of one
      generalize hW7 : w6.alloc (.cells #[.pointer (some ⟨ND, 0, none⟩)] 43) = w7
      have bel7 : Below w6.heap.size w6 w7 := by rw [← hW7]; exact (Below.refl _ _).alloc (Nat.le_refl _) _
      have bs7 : w7.heap[(ND + 1 + 1)]? = some (.cells #[.pointer (some ⟨ND, 0, none⟩)] 43 (0, 0)) := by rw [← hW7, ← sz6]; exact heap_alloc_new w6 _
      have sz7 : w7.heap.size = (ND + 1 + 1) + 1 := by rw [← hW7]; simp [sz6]
      obtain ⟨lk, hkey⟩ := key_id (c := cx / 256) (a := ak) (by omega) (by omega) (by rw [← hA]; exact actor_size _)
      have ix7 : Mp Yba.prog 60 w7.drew W0 ni f := (ix6.below bel7).below ((Below.refl _ _).drew)
      have ist7 : St w7.drew W0 := ist6.kept (bel7.block W0 (by omega))
      obtain ⟨w8, sb, n8, hent, hbut8, ix8, ist8, stm8⟩ := ix7.entry ist7 keyed Yba.underlying42 (zero67 _) hkey
      have rows8 : Rows k (bkey (fun i => cAt s0 gap (i + 1)) (fun i => actorS (act i))) nd (W0 + 1 + 1 + 1 + 1) f w8 := rows6.kept (fun b h1 h2 => (hbut8.block b (by omega)).trans (bel7.block b h2))
      obtain ⟨js, ow8, pj, mj, lj⟩ := rows8.old (idV (cx / 256) ak)
      have sz8 : w8.heap.size = (ND + 1 + 1) + 1 := by rw [hbut8.size]; exact sz7
      have q8 : w8.cell? ⟨(ND + 1 + 1), 0, none⟩ = some (.pointer (some ⟨ND, 0, none⟩)) := by rw [cell_row ((hbut8.block (ND + 1 + 1) (by omega)).trans bs7)]; rfl
      obtain ⟨v', w9, happ, ow9, gr9, blk9, _⟩ := append_node w8 (W0 + 1 + 1 + 1 + 1) _ js.length _ ow8 ⟨(ND + 1 + 1), 0, none⟩ ND q8 (by omega) (by omega)
      replace happ : ∀ ty, (shutAppend #[67, 67] ty #[_, .slice (some ⟨(ND + 1 + 1), 0, none⟩) 1 1]).run Yba.prog w8 = .ok v' w9 := happ
      generalize hv0 : (f (idV (cx / 256) ak)).getD (.slice none 0 0) = v0 at *
      have hv0b : some W0 ≠ v0.ownBlock := by
        intro he
        have := (ow8.lt W0 he.symm).1
        omega
      have k9 := gr9.block W0 (by omega) hv0b
      have ix9 := ix8.kept k9
      have ist9 := ist8.kept k9
      have stm9 : Stamp w9 W0 sb (idV (cx / 256) ak) := by
        obtain ⟨es, cl, x, e1, e2⟩ := stm8
        exact ⟨es, cl, x, k9.trans e1, e2⟩
      obtain ⟨w10, n10, hsto, hbut10, ix10, ist10⟩ := ix9.entryStore ist9 keyed Yba.underlying42 hkey stm9 v'
      have c3 : w6.cell? ⟨W0 + 1, 3, none⟩ = some (.map (some W0)) := by rw [cell_row row6]; rfl
      have c3' := cell_later bel7 c3
      have d0 : w6.cell? ⟨ND + 1, 0, none⟩ = some (.int .u64 (cx / 256)) := by rw [cell_row br6]; rfl
      have d1 : w6.cell? ⟨ND + 1, 1, none⟩ = some (.string ak) := by rw [cell_row br6]; rfl
      have d0' := cell_later bel7 d0
      have d1' := cell_later bel7 d1
      have hgo : goInt sb = .int .i64 (sb : Int) := rfl
      rw [hgo] at hent hsto
      have rows9 : Rows (k + 1) (bkey (fun i => cAt s0 gap (i + 1)) (fun i => actorS (act i))) (fun j => if j = k then ND else nd j) (W0 + 1 + 1 + 1 + 1) (putAt f (idV (cx / 256) ak) v') w9 := by
        have hbk : bkey (fun i => cAt s0 gap (i + 1)) (fun i => actorS (act i)) k = idV (cx / 256) ak := by simp only [bkey, hcx, hA]
        have := rows8.step (P := ND) (v' := v') (js := js) (by rw [hbk, hv0]; exact gr9) pj (by rw [hbk]; exact mj) ow9 (by rw [hbk, hv0]; exact blk9)
        rw [hbk] at this
        exact this
      have rows10 := rows9.kept (w' := w10) (fun b h1 _ => hbut10.block b (by omega))
      have ix10' : Mp Yba.prog 60 w10 W0 n10 (putAt f (idV (cx / 256) ak) v') := ix10.congr fun x => by
        by_cases hx : x = idV (cx / 256) ak
        · subst hx; rw [putAt_same, putAt_same]
        · rw [putAt_other _ _ hx, putAt_other _ _ hx, putAt_other _ _ hx]
      have sz10 : (ND + 1 + 1) + 1 ≤ w10.heap.size := by rw [hbut10.size]; have := gr9.size; omega
      -- what the region turns: the index's block and the bucket's row
      have turn : ∀ b, b < (ND + 1 + 1) + 1 → b ≠ W0 → some b ≠ v0.ownBlock → w10.heap[b]? = w7.heap[b]? := fun b h1 h2 h3 => (hbut10.block b h2).trans ((gr9.block b (by omega) h3).trans (hbut8.block b h2))
      have hown0 : ∀ g, v0.ownBlock = some g → W0 + 1 + 1 + 1 + 1 ≤ g ∧ (∃ cur, w7.heap[g]? = some (.cells cur 43 (0, 0))) ∧ (∃ v, f (idV (cx / 256) ak) = some v ∧ v.ownBlock = some g) := fun g hg => by
        rcases ow8.2 with ⟨hn, _⟩ | ⟨g', cap, cur, e1, e2, e3, _⟩
        · rw [hn] at hg; simp [Value.ownBlock] at hg
        · have hgg : g' = g := by rw [e1] at hg; simpa [Value.ownBlock] using hg
          subst hgg
          refine ⟨e2, ⟨cur, (hbut8.block g' (by omega)).symm.trans e3⟩, ?_⟩
          cases hfk : f (idV (cx / 256) ak) with
          | none => rw [hfk] at hv0; rw [← hv0] at e1; simp at e1
          | some u => rw [hfk] at hv0; exact ⟨u, rfl, by rw [show u = v0 from hv0]; exact hg⟩
      have HOS10 : Hid (w10.os = w7.os ∧ w10.tape = w7.tape ∧ w10.output = w7.output) := ⟨hbut10.os.trans (gr9.os.trans hbut8.os), hbut10.tape.trans (gr9.tape.trans hbut8.tape), hbut10.output.trans (gr9.output.trans hbut8.output)⟩
      have HROWS := hid rows10
      have HIX := hid ix10'
      have HIST := hid ist10
      have HTURN := hid turn
      have HOWN0 := hid hown0
      have HB7 := hid bel7
      have HBS7 := hid bs7
      have HROW6 := hid row6
      have HOLD6 := hid old6
      have HB6 := hid bel6
      have HBLK9 := hid blk9
      have HSZ8 := hid sz8
      clear rows10 rows9 ix10' ist10 turn hown0 bel7 bs7 row6 old6 bel6 br6 blk9 ow9 gr9 ow8 mj pj rows8 rows6 ix6 ist6 ix7 ist7 ix8 ist8 stm8 ix9 ist9 stm9 ix10 hbut8 hbut10 q8 hkey k9 hgo hv0b
      go_region
      clear hent happ hsto c3 c3' d0 d1 d0' d1'
      have row10 : w10.heap[W0 + 1]? = some (.cells (lrow W0 mo mv) 54 (0, 0)) := by
        refine (HTURN.out (W0 + 1) (by omega) (by omega) ?_).trans ((HB7.out.block _ (by omega)).trans HROW6.out)
        intro he
        have := (HOWN0.out _ he.symm).1
        omega
      have c8 : w10.cell? ⟨W0 + 1, 8, none⟩ = some (.map mo) := by rw [cell_row row10]; rfl
      have c9 : w10.cell? ⟨W0 + 1, 9, none⟩ = some (.map mv) := by rw [cell_row row10]; rfl
      have z8 : w10.frozen? ⟨W0 + 1, 8, none⟩ = false := free_row row10
      have z9 : w10.frozen? ⟨W0 + 1, 9, none⟩ = false := free_row row10
      have m41 : ∀ w : World, (binOp .eql 41 (.map mo) (.map none)).run Yba.prog w = .ok (.bool mo.isNone) w := fun w => run_eql_map_nil w _ _ _ mo Yba.underlying41
      have HR10 := hid row10
      clear row10
      go_upto_if 104 with fail
      generalize hmn : mo.isNone = mn at *
      have HMN := hid hmn
      clear hmn m41
      go_cut [8] (fun v wx => v = .bool false ∧ ∃ Mo Mv fm', wx.heap[W0 + 1]? = some (.cells (lrow W0 (some Mo) (some Mv)) 54 (0, 0)) ∧ Mov (W0 + 1 + 1 + 1 + 1) k Mo Mv (fun i => cAt s0 gap (i + 1)) (fun i => actorS (act i)) fm' wx ∧ w10.heap.size ≤ wx.heap.size ∧ (∀ b, b < w10.heap.size → b ≠ W0 + 1 → wx.heap[b]? = w10.heap[b]?) ∧
        wx.os = w10.os ∧ wx.tape = w10.tape ∧ wx.output = w10.output ∧ ((mo = some Mo ∧ mv = some Mv ∧ Mo < wr.heap.size ∧ Mv < wr.heap.size) ∨ (k = 0 ∧ w10.heap.size ≤ Mo ∧ w10.heap.size ≤ Mv)))
      case first =>
        as_aux_lemma =>
        rcases HL.out.mov with ⟨hk00, hmo, hmv⟩ | ⟨Mo, Mv, hmo, hmv, hmov⟩
        · subst hmo hmv
          obtain rfl : mn = true := HMN.out.symm
          have hm41 := make41
          have hm47 := make47
          have hlb : W0 + 1 < w10.heap.size := (Array.getElem?_eq_some_iff.1 HR10.out).1
          obtain ⟨q1, q2, q3⟩ := one_new w10 (.map #[] 0)
          have r1 := (q2.block _ hlb).trans HR10.out
          have b8 : (w10.alloc (.map #[] 0)).cell? ⟨W0 + 1, 8, none⟩ = some (.map none) := by rw [cell_row r1]; rfl
          have y8 : (w10.alloc (.map #[] 0)).frozen? ⟨W0 + 1, 8, none⟩ = false := free_row r1
          go_upto_region 20 with fail
          have rS : (w10.setCell ⟨W0 + 1, 8, none⟩ (.map (some w10.heap.size))).heap[W0 + 1]? = some (.cells (lrow W0 (some w10.heap.size) none) 54 (0, 0)) := heap_put w10 _ HR10.out
          have szS : (w10.setCell ⟨W0 + 1, 8, none⟩ (.map (some w10.heap.size))).heap.size = w10.heap.size := by simp [World.setCell]
          obtain ⟨k1, k2, k3⟩ := one_new (w10.setCell ⟨W0 + 1, 8, none⟩ (.map (some w10.heap.size))) (.map #[] 0)
          generalize hW11 : (w10.setCell ⟨W0 + 1, 8, none⟩ (.map (some w10.heap.size))).alloc (.map #[] 0) = w11 at *
          have r11 : w11.heap[W0 + 1]? = some (.cells (lrow W0 (some w10.heap.size) none) 54 (0, 0)) := (k2.block _ (by omega)).trans rS
          have far11 : ∀ b, b < w10.heap.size → b ≠ W0 + 1 → w11.heap[b]? = w10.heap[b]? := fun b hb1 hb => (k2.block b (by omega)).trans (heap_far _ _ hb)
          have sz11 : w11.heap.size = w10.heap.size + 1 := by rw [k3, szS]
          have m11 : w11.heap[w10.heap.size]? = some (.map #[] 0) := by rw [szS] at k1; exact k1
          obtain ⟨p1, p2, p3⟩ := one_new w11 (.map #[] 0)
          have r12 := (p2.block _ (by omega)).trans r11
          have b9 : (w11.alloc (.map #[] 0)).cell? ⟨W0 + 1, 9, none⟩ = some (.map none) := by rw [cell_row r12]; rfl
          have y9 : (w11.alloc (.map #[] 0)).frozen? ⟨W0 + 1, 9, none⟩ = false := free_row r12
          have hos11 : w11.os = w10.os ∧ w11.tape = w10.tape ∧ w11.output = w10.output := by rw [← hW11]; exact ⟨rfl, rfl, rfl⟩
          have HR12 := hid r12
          have HFAR11 := hid far11
          have HM11 := hid m11
          have HP1 := hid p1
          have HP2 := hid p2
          have HQ2 := hid q2
          have HOS11 := hid hos11
          clear r1 r11 r12 far11 m11 p1 p2 p3 q1 q2 q3 b8 y8 hW11 hos11 c8 c9 z8 z9 rS szS k1 k2 k3
          go_wp2_with fail
          go_meet
          rw [sz11] at HP1
          refine ⟨rfl, w10.heap.size, w10.heap.size + 1, (fun _ => none), ?_, ?_, ?_, ?_, HOS11.out.1, HOS11.out.2.1, HOS11.out.2.2, .inr ⟨hk00, Nat.le_refl _, by omega⟩⟩
          · have := heap_put (w11.alloc (.map #[] 0)) (j := 9) (.map (some w11.heap.size)) HR12.out
            rw [sz11] at this
            exact this
          · have e1 : (((w11.alloc (.map #[] 0)).setCell ⟨W0 + 1, 9, none⟩ (.map (some (w10.heap.size + 1)))).heap[w10.heap.size]?) = some (.map #[] 0) := (heap_far _ _ (by omega)).trans ((HP2.out.block _ (by omega)).trans HM11.out)
            have e2 : (((w11.alloc (.map #[] 0)).setCell ⟨W0 + 1, 9, none⟩ (.map (some (w10.heap.size + 1)))).heap[w10.heap.size + 1]?) = some (.map #[] 0) := (heap_far _ _ (by omega)).trans HP1.out
            exact ⟨by omega, by omega, ⟨#[], 0, e1, by simp [hk00], by simp, by simp, fun s v h => by cases h⟩, ⟨#[], 0, e1, by simp, by simp⟩, fun x => ⟨fun h => by simp at h, fun ⟨i, hi, _⟩ => by omega⟩, ⟨#[], 0, e2, rfl, by simp, by simp, fun s v h => by cases h⟩⟩
          · simp [World.setCell, sz11]
            omega
          · intro b hb hb1
            exact (heap_far _ _ hb1).trans ((HP2.out.block b (by omega)).trans (HFAR11.out b hb hb1))
        · subst hmo hmv
          obtain rfl : mn = false := HMN.out.symm
          go_wp2_with fail
          go_meet
          have hMol := hmov.mp.lt
          have hMvl := hmov.mq.lt
          have tr : ∀ M, W0 + 1 + 1 + 1 + 1 ≤ M → M < wr.heap.size → (∀ cur, wr.heap[M]? ≠ some (.cells cur 43 (0, 0))) → w10.heap[M]? = wr.heap[M]? := fun M h1 h2 h3 => by
            have e1 : w7.heap[M]? = wr.heap[M]? := (HB7.out.block M (by omega)).trans (HOLD6.out M h2 (by omega) (by omega))
            refine (HTURN.out M (by omega) (by omega) ?_).trans e1
            intro he
            obtain ⟨_, ⟨cur, hcur⟩, _⟩ := HOWN0.out M he.symm
            exact h3 cur (e1.symm.trans hcur)
          have isMap : ∀ {M n : Nat} {g : Value → Option Value}, Mp Yba.prog 60 wr M n g → ∀ cur, wr.heap[M]? ≠ some (.cells cur 43 (0, 0)) := fun h cur he => by
            obtain ⟨es, cl, e1, _⟩ := h
            rw [e1] at he
            cases he
          refine ⟨rfl, Mo, Mv, fm, HR10.out, hmov.kept (tr Mo hmov.lo hMol (isMap hmov.mp)) (tr Mv (by have := hmov.lo; have := hmov.ne; omega) hMvl (isMap hmov.mq)), Nat.le_refl _, fun _ _ _ => rfl, rfl, rfl, rfl, .inl ⟨rfl, rfl, hMol, hMvl⟩⟩
      case rest =>
        obtain ⟨rfl, Mo, Mv, fm', row11, mov11, sz11, old11, os11, tp11, out11, hcase⟩ := hcut
        generalize hW11 : wc = w11 at *
        clear hW11 c8 c9 z8 z9
        have c8 : w11.cell? ⟨W0 + 1, 8, none⟩ = some (.map (some Mo)) := by rw [cell_row row11]; rfl
        have xr7 : w7.heap[wr.heap.size + 1]? = some (.cells #[.int .u64 cx, .string ak] 60 (0, 0)) := (HB7.out.block _ (by omega)).trans ((HB6.out.block _ (by omega)).trans HXR5.out)
        have xr11 : w11.heap[wr.heap.size + 1]? = some (.cells #[.int .u64 cx, .string ak] 60 (0, 0)) := by
          refine (old11 _ (by omega) (by omega)).trans ((HTURN.out _ (by omega) (by omega) ?_).trans xr7)
          intro he
          obtain ⟨_, ⟨cur, hcur⟩, _⟩ := HOWN0.out _ he.symm
          rw [xr7] at hcur
          cases hcur
        have x0 : w11.cell? ⟨wr.heap.size + 1, 0, none⟩ = some (.int .u64 cx) := by rw [cell_row xr11]; rfl
        have x1 : w11.cell? ⟨wr.heap.size + 1, 1, none⟩ = some (.string ak) := by rw [cell_row xr11]; rfl
        obtain ⟨u1, u2, u3⟩ := one_new w11 (.cells #[] 43)
        have c8' := cell_later u2 c8
        have x0' := cell_later u2 x0
        have x1' := cell_later u2 x1
        obtain ⟨lx, hkx⟩ := key_id (c := cx) (a := ak) hcx0.1 hcx0.2 (by rw [← hA]; exact actor_size _)
        have mov12 : Mov (W0 + 1 + 1 + 1 + 1) k Mo Mv (fun i => cAt s0 gap (i + 1)) (fun i => actorS (act i)) fm' (w11.alloc (.cells #[] 43)).drew := mov11.kept (u2.block Mo mov11.mp.lt) (u2.block Mv mov11.mq.lt)
        obtain ⟨w13, hup, hbut13, mov13⟩ := mov12.step (l := lx) (by simp only [hcx, hA]; exact hkx) (fun i hi => by have := cAt_lt s0 gap (show i + 1 < k + 1 by omega); omega) (.slice (some ⟨w11.heap.size, 0, none⟩) 0 0)
        simp only [hcx, hA] at hup
        have HM13 := hid mov13
        have HMV11 := hid mov11
        have HBUT13 := hid hbut13
        have HROW11 := hid row11
        have HOLD11 := hid old11
        have HU2 := hid u2
        clear mov13 hbut13 row11 old11 u1 u2 u3 mov12 mov11 xr7 xr11 hkx
        go_wp2_with fail
        go_region
        clear hup c8 c8' x0 x0' x1 x1'
        have HFIN : Hid (Below W0 w w13 ∧ ∃ f fm ni mo mv nd p lo hi, LayD W0 (k + 1) N (fun i => cAt s0 gap (i + 1)) (fun i => actorS (act i)) (fun i => showS (knd i)) f fm ni mo mv nd p lo hi w13) := by
          have hb0 : Below W0 w wr := by rw [← hW0]; exact HB.out
          obtain ⟨es, cl, hmm, _⟩ := HMV11.out.mp
          have hpd2 := HPD.out
          rw [show ((wr.alloc (.cells #[.int .u8 (gap k), .int .u8 (act k), .int .u8 (knd k)] 57)).alloc (.cells #[.int .u64 cx, .string ak] 60)).heap.size = wr.heap.size + 1 + 1 from by simp] at hpd2
          have hu2 : Below w11.heap.size w11 (w11.alloc (.cells #[] 43)).drew := HU2.out.drew
          have := lay_step (k := k) (c := fun i => cAt s0 gap (i + 1)) (A := fun i => actorS (act i)) (S := fun i => showS (knd i)) hcx hA hS hb0 HL.out HBR3.out hs43 hpd2 HOS4.out HFAR4.out sz4 HIDS4.out HSHW4.out HB5.out HNR5.out sz5 HB6.out sz6 HB7.out sz7 HTURN.out HOWN0.out HOS10.out sz10 HROWS.out HIX.out HIST.out HBLK9.out HSZ8.out HROW11.out ⟨es, cl, hmm⟩ sz11 HOLD11.out os11 tp11 out11 hcase hu2 HBUT13.out HM13.out
          exact ⟨this.1, _, _, _, _, _, _, _, _, _, this.2⟩
        go_wp2_with fail
        go_roundw
        case rel => exact ⟨k + 1, by omega, by go_num, by rw [hcx], HFIN.out⟩
        case measure => simp [intOf]; omega
    · obtain rfl : N = k := by omega
      have hkl' : ¬ ((N : Int) < (N : Int)) := by omega
      have e68n := eq68n
      have row := HL.out.row
      rcases Nat.eq_zero_or_pos N with hN0 | hN0
      · have HKN : Hid (Calls Yba.prog 10 #[.pointer (some ⟨W0 + 1, 0, none⟩), .agg #[.bool all, .map none]] wr fun e w' => e = .returned .nilFunc ∧ Below wr.heap.size wr w') := by
          refine keep_none (W0 + 1) all wr ?_
          rw [cell_row row, HL.out.non hN0]; rfl
        go_wp2_with fail
        refine HKN.out.mono ?_
        rintro e w2 ⟨rfl, hb2⟩
        have hNz : ((N : Int) == 0) = true := by simp; omega
        have HF : Hid (Below w.heap.size w w2) := HB.out.trans (hb2.mono HB.out.size)
        clear hb2
        go_wp2_with fail
        go_ret
        exact ⟨rfl, HF.out⟩
      · have hNz : ((N : Int) == 0) = false := by simp; omega
        obtain ⟨Mo, Mv, hmo, hmv, hmov⟩ : ∃ Mo Mv, mo = some Mo ∧ mv = some Mv ∧ Mov (W0 + 1 + 1 + 1 + 1) N Mo Mv (fun i => cAt s0 gap (i + 1)) (fun i => actorS (act i)) fm wr := by
          rcases HL.out.mov with ⟨h, _, _⟩ | h
          · omega
          · exact h
        subst hmo hmv
        cases all
        · have e68 := eq68
          have HLT : Hid (Lst (W0 + 1) W0 Mo Mv N ni f fm (fun i => cAt s0 gap (i + 1)) (fun i => actorS (act i)) (fun i => showS (knd i)) nd p lo hi wr) :=
            lst_of (by omega) row HL.out.ix HL.out.rows hmov HL.out.node HL.out.pl (fun i j hij _ => cAt_lt s0 gap (by omega)) (fun i hi => by have := cAt_le s0 gap (i + 1); omega) (fun i => actor_size _)
          have HKN : Hid (Calls Yba.prog 10 #[.pointer (some ⟨W0 + 1, 0, none⟩), .agg #[.bool false, .map none]] wr fun e w' => Kept N (fun i => cAt s0 gap (i + 1)) (fun i => actorS (act i)) (fun i => showS (knd i)) wr e w') :=
            keep_any (W0 + 1) W0 Mo Mv N ni f fm (fun i => cAt s0 gap (i + 1)) (fun i => actorS (act i)) (fun i => showS (knd i)) nd p lo hi wr hN0 (by omega) HLT.out
          have HMOV := hid hmov
          have HROW := hid row
          clear hmov row
          go_wp2_with fail
          refine HKN.out.mono ?_
          rintro e w2 ⟨OW, W, no, fo, rfl, hb2, hO, hmp, hfo⟩
          have row2 := (hb2.block _ (Array.getElem?_eq_some_iff.1 HROW.out).1).trans HROW.out
          have c8 : w2.cell? ⟨W0 + 1, 8, none⟩ = some (.map (some Mo)) := by rw [cell_row row2]; rfl
          have c9 : w2.cell? ⟨W0 + 1, 9, none⟩ = some (.map (some Mv)) := by rw [cell_row row2]; rfl
          have hle := (HMOV.out.mp.below hb2).length Yba.underlying41
          have hlm := (HMOV.out.mq.below hb2).length Yba.underlying47
          have HF : Hid (Below w.heap.size w w2) := HB.out.trans (hb2.mono HB.out.size)
          have szr := HL.out.sz
          have ids2 := HL.out.ids.kept (hb2.block (W0 + 1 + 1) (by omega))
          have shw2 := HL.out.shw.kept (hb2.block (W0 + 1 + 1 + 1) (by omega))
          have HO := hid hO
          have HMP := hid hmp
          have HFO := hid hfo
          have HIDS := hid ids2
          have HSHW := hid shw2
          have HNN : ((N : Int) == (N : Int)) = true := by simp
          clear hb2 hO hmp hfo ids2 shw2 row2 HKN HLT HMOV HROW HL HB szr
          go_wp2_with fail
          go_loopw [152] (fun i wx => ∃ j : Nat, j ≤ N ∧ i = .int .i64 j ∧ Below w2.heap.size w2 wx) (fun i _ => N - (intOf i).toNat)
          case atStart => exact ⟨0, Nat.zero_le _, rfl, Below.refl _ _⟩
          case round =>
            obtain ⟨j, hjN, rfl, hb⟩ := hrel
            clear c8 c9 hle hlm e68 e68n hNz HNN
            have HB2 := hid hb
            clear hb
            by_cases hjl : j < N
            · have hjl' : (j : Int) < (N : Int) := by omega
              have hj0 : (0 : Int) ≤ (j : Int) := by omega
              obtain ⟨i0, i1⟩ := (HIDS.out.read hjl)
              have i2 := HSHW.out.read hjl
              have x0 := cell_later HB2.out i0
              have x1 := cell_later HB2.out i1
              have x2 := cell_later HB2.out i2
              have HOW : Hid (∀ wx, Below wr.heap.size wr wx → Calls Yba.prog 14 #[idV (cAt s0 gap (j + 1)) (actorS (act j)), .pointer (some ⟨OW, 0, none⟩)] wx fun e w' => e = .returned (.bool (showS (knd j))) ∧ Below wx.heap.size wx w') := fun wx hx => by
                have hx2 := HB2.out.trans (hx.mono HB2.out.size)
                have hc0 := cAt_le s0 gap (j + 1)
                refine own_any OW W no fo _ _ wx (by omega) (by omega) (actor_size _) (cell_later hx2 HO.out) (HMP.out.below hx2) _ ?_
                rw [HFO.out]
                exact own_self (c := fun i => cAt s0 gap (i + 1)) (A := fun i => actorS (act i)) (S := fun i => showS (knd i)) hjl (fun i j _ _ h => cAt_inj h)
              generalize hcj : cAt s0 gap (j + 1) = cj at *
              generalize haj : actorS (act j) = aj at *
              generalize hsj : showS (knd j) = sj at *
              clear i0 i1 i2
              go_wp2_with fail
              go_region_held3 (fun w' => w'.cell? ⟨W0 + 1 + 1, j * 2, none⟩ = some (.int .u64 cj) ∧ w'.cell? ⟨W0 + 1 + 1, j * 2 + 1, none⟩ = some (.string aj) ∧ w'.cell? ⟨W0 + 1 + 1 + 1, j, none⟩ = some (.bool sj))
                (first | (go_keep; done)) (first | (go_at_call 14; refine (HOW.out _ ((Below.refl _ _).drew)).mono ?_; rintro e w9 ⟨rfl, hb9⟩; have hb9' := undrew hb9; have t1 := cell_later hb9' x0; have t2 := cell_later hb9' x1; have t3 := cell_later hb9' x2))
              have HR : Hid (Below w2.heap.size w2 w9) := HB2.out.trans (hb9'.mono HB2.out.size)
              have hsb : (sj == sj) = true := by simp
              clear hb9 hb9' t1 t2 t3 x0 x1 x2 HOW
              go_wp2_with fail
              go_roundw
              case rel => exact ⟨j + 1, by omega, by go_num, HR.out⟩
              case measure => simp [intOf]; omega
            · obtain rfl : N = j := by omega
              have hnl : ¬ ((N : Int) < (N : Int)) := by omega
              go_wp2_with fail
              go_loopw [169] (fun i wx => ∃ t : Nat, t ≤ Q ∧ i = .int .i64 t ∧ Below w2.heap.size w2 wx) (fun i _ => Q - (intOf i).toNat)
              case atStart => exact ⟨0, Nat.zero_le _, rfl, HB2.out⟩
              case round =>
                obtain ⟨t, htQ, rfl, hb⟩ := hrel
                clear HB2
                have HB2 := hid hb
                clear hb
                by_cases htl : t < Q
                · have htl' : (t : Int) < (Q : Int) := by omega
                  have ht0 : (0 : Int) ≤ (t : Int) := by omega
                  obtain rfl := HQA.out (by omega)
                  have HFB := hid (HF.out.trans (HB2.out.mono HF.out.size))
                  have s0' := cell_later HFB.out (Q0.out t htl)
                  have s1' := cell_later HFB.out (Q1.out t htl)
                  obtain ⟨g0, g1⟩ := HQ0.out t htl
                  obtain ⟨a0, a1⟩ := HQ1.out t htl
                  have HAC : Hid (∀ wx, Calls Yba.prog 8 #[.int .u8 (qact t)] wx fun e w' => e = .returned (.string (actorS (qact t))) ∧ w' = wx) := fun wx => actor_any (qact t) wx a0 a1
                  go_upto_region 39 with fail
                  generalize hX : wr.heap.size = X
                  generalize hW3 : wr.alloc (.cells #[.int .u64 (qn t), .int .u8 (qact t)] 74) = w3
                  have bel3 : Below wr.heap.size wr w3 := by rw [← hW3]; exact (Below.refl _ _).alloc (Nat.le_refl _) _
                  have xr : w3.heap[X]? = some (.cells #[.int .u64 (qn t), .int .u8 (qact t)] 74 (0, 0)) := by rw [← hW3, ← hX]; exact heap_alloc_new wr _
                  have x0 : w3.cell? ⟨X, 0, none⟩ = some (.int .u64 (qn t)) := by rw [cell_row xr]; rfl
                  have x1 : w3.cell? ⟨X, 1, none⟩ = some (.int .u8 (qact t)) := by rw [cell_row xr]; rfl
                  have HB3 := hid (HB2.out.trans (bel3.mono HB2.out.size))
                  generalize hq : qn t = qx at *
                  generalize hqa : actorS (qact t) = ax at *
                  clear s0' s1' bel3 xr hW3
                  go_cut [24] (fun v wx => v = .pointer (some ⟨w3.heap.size, 0, none⟩) ∧ wx = (w3.alloc (.cells #[.int .u64 qx, .string ax] 60)).drew)
                  case first =>
                    go_region_held3 (fun w' => w'.cell? ⟨X, 0, none⟩ = some (.int .u64 qx) ∧ w'.cell? ⟨X, 1, none⟩ = some (.int .u8 (qact t)))
                      (first | (go_keep; done)) (first | (go_at_call 8; refine (HAC.out _).mono ?_; rintro e w9 ⟨rfl, rfl⟩))
                    all_goals
                      go_wp2_with fail
                      go_meet
                      exact ⟨rfl, rfl⟩
                  case rest =>
                    obtain ⟨rfl, rfl⟩ := hcut
                    generalize hY : w3.heap.size = Y
                    generalize hW4 : (w3.alloc (.cells #[.int .u64 qx, .string ax] 60)).drew = w4
                    have bel4 : Below w3.heap.size w3 w4 := by rw [← hW4]; exact ((Below.refl _ _).alloc (Nat.le_refl _) _).drew
                    have yr : w4.heap[Y]? = some (.cells #[.int .u64 qx, .string ax] 60 (0, 0)) := by rw [← hW4, ← hY]; exact heap_alloc_new w3 _
                    have y0 : w4.cell? ⟨Y, 0, none⟩ = some (.int .u64 qx) := by rw [cell_row yr]; rfl
                    have y1 : w4.cell? ⟨Y, 1, none⟩ = some (.string ax) := by rw [cell_row yr]; rfl
                    have HB4 := hid (HB3.out.trans (bel4.mono HB3.out.size))
                    have HYR := hid yr
                    clear bel4 yr hW4 x0 x1 HAC y0 y1
                    go_wp2_with fail
                    go_loopw [25, 181] (fun v i wx => ∃ r : Nat, r ≤ N ∧ i = .int .i64 r ∧ v = .bool (wantOf (fun i => cAt s0 gap (i + 1)) (fun i => actorS (act i)) (fun i => showS (knd i)) qx ax r) ∧ Below w4.heap.size w4 wx) (fun _ i _ => N - (intOf i).toNat)
                    case atStart => exact ⟨0, Nat.zero_le _, rfl, rfl, Below.refl _ _⟩
                    case round =>
                      obtain ⟨r, hrN, rfl, rfl, hb⟩ := hrel
                      have HB5 := hid (HB4.out.trans (hb.mono HB4.out.size))
                      have yr := (hb.block _ (Array.getElem?_eq_some_iff.1 HYR.out).1).trans HYR.out
                      have y0 : wr.cell? ⟨Y, 0, none⟩ = some (.int .u64 qx) := by rw [cell_row yr]; rfl
                      have y1 : wr.cell? ⟨Y, 1, none⟩ = some (.string ax) := by rw [cell_row yr]; rfl
                      have HB4R := hid hb
                      have HYR5 := hid yr
                      clear hb yr
                      by_cases hrl : r < N
                      · have hrl' : (r : Int) < (N : Int) := by omega
                        have hr0 : (0 : Int) ≤ (r : Int) := by omega
                        obtain ⟨i0, i1⟩ := (HIDS.out.read hrl)
                        have i2 := HSHW.out.read hrl
                        have x0 := cell_later HB5.out i0
                        have x1 := cell_later HB5.out i1
                        have x2 := cell_later HB5.out i2
                        have HWN : Hid (wantOf (fun i => cAt s0 gap (i + 1)) (fun i => actorS (act i)) (fun i => showS (knd i)) qx ax (r + 1) = if (cAt s0 gap (r + 1) == qx) && ((actorS (act r)).toList == ax.toList) then showS (knd r) else wantOf (fun i => cAt s0 gap (i + 1)) (fun i => actorS (act i)) (fun i => showS (knd i)) qx ax r) := rfl
                        have e60 := eq60 (cAt s0 gap (r + 1)) qx (actorS (act r)) ax
                        generalize hwn : wantOf (fun i => cAt s0 gap (i + 1)) (fun i => actorS (act i)) (fun i => showS (knd i)) qx ax r = wn at *
                        generalize hcr : cAt s0 gap (r + 1) = cr at *
                        generalize har : actorS (act r) = ar at *
                        generalize hsr : showS (knd r) = sr at *
                        generalize hz : ((cr == qx) && (ar.toList == ax.toList)) = z at *
                        clear i0 i1 i2 hz
                        cases z
                        · simp only [Bool.false_eq_true, if_false] at HWN
                          go_wp2_with fail
                          go_quiet (fail)
                          go_wp2_with fail
                          go_roundw
                          case rel => exact ⟨r + 1, by omega, by go_num, by rw [HWN.out], below_drewN HB4R.out _⟩
                          case measure => simp [intOf]; omega
                        · simp only [if_true] at HWN
                          go_wp2_with fail
                          go_quiet (fail)
                          go_wp2_with fail
                          go_roundw
                          case rel => exact ⟨r + 1, by omega, by go_num, by rw [HWN.out], below_drewN HB4R.out _⟩
                          case measure => simp [intOf]; omega
                      · obtain rfl : N = r := by omega
                        have HOW : Hid (Calls Yba.prog 14 #[.agg #[.int .u64 qx, .string ax], .pointer (some ⟨OW, 0, none⟩)] wr fun e w' => e = .returned (.bool (wantOf (fun i => cAt s0 gap (i + 1)) (fun i => actorS (act i)) (fun i => showS (knd i)) qx ax N)) ∧ Below wr.heap.size wr w') := by
                          refine own_any OW W no fo _ _ wr (by omega) (by omega) (by rw [← hqa]; exact actor_size _) (cell_later HB5.out HO.out) (HMP.out.below HB5.out) _ ?_
                          rw [HFO.out]
                          exact own_want (c := fun i => cAt s0 gap (i + 1)) (A := fun i => actorS (act i)) (S := fun i => showS (knd i)) qx ax (fun i j _ _ h => cAt_inj h)
                        generalize wantOf (fun i => cAt s0 gap (i + 1)) (fun i => actorS (act i)) (fun i => showS (knd i)) qx ax N = wn at *
                        have hwb : (wn == wn) = true := by simp
                        go_wp2_with fail
                        refine HOW.out.mono ?_
                        rintro e w6 ⟨rfl, hb6⟩
                        have HR : Hid (Below w2.heap.size w2 w6) := HB5.out.trans (hb6.mono HB5.out.size)
                        clear hb6 y0 y1
                        go_wp2_with fail
                        go_roundw
                        case rel => exact ⟨t + 1, by omega, by go_num, HR.out⟩
                        case measure => simp [intOf]; omega
                · have htl' : ¬ ((t : Int) < (Q : Int)) := by omega
                  have HR : Hid (Below w.heap.size w wr) := HF.out.trans (HB2.out.mono HF.out.size)
                  go_wp2_with fail
                  go_ret
                  exact ⟨rfl, by rw [← hW0]; exact HR.out⟩
        · have HKN : Hid (Calls Yba.prog 10 #[.pointer (some ⟨W0 + 1, 0, none⟩), .agg #[.bool true, .map none]] wr fun e w' => e = .returned .nilFunc ∧ Below wr.heap.size wr w') :=
            keep_all (W0 + 1) Mo N fm wr hN0 (by omega) (by rw [cell_row row]; rfl) hmov.mp
          clear hmov row
          go_wp2_with fail
          refine HKN.out.mono ?_
          rintro e w2 ⟨rfl, hb2⟩
          have HF : Hid (Below w.heap.size w w2) := HB.out.trans (hb2.mono HB.out.size)
          clear hb2
          go_wp2_with fail
          go_ret
          exact ⟨rfl, HF.out⟩

end Go.Proofs.Ybulkesdo.C
