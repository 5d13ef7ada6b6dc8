/-
  LawS7281BWhole: the walk.
-/
import Derived.Test.YbulkettoBParts
namespace Go.Proofs.Ybulketto.B
open Go.RowKit Go.Maps Classical
open Go.Proofs.Ybulketto.C (hid cell_later cell_row free_row heap_put heap_far keyed key_str toList_iff toList_ne lastTo lastTo_lt lastTo_at)
attribute [local go_sem ↓] Go.wp_at_zero Go.wp_at_succ

/-- The world once k entries are laid. -/
structure Fill (C NW Mc Ml T k : Nat) (now sw : Int) (PK : Nat → ByteArray) (U : Nat → Int) (pt : Nat → Nat) (w : World) : Prop where
  ord : Ord C NW Mc Ml T k pt
  tk : Tk T C NW Mc Ml 0 0 now sw w
  mc : Mp Yba.prog 9 w Mc 0 (fun _ => none)
  ml : ∃ m, Mp Yba.prog 9 w Ml m (fOf PK pt k fun _ => true)
  st : St w Ml
  ls : Ls k pt U w

theorem Fill.below {C NW Mc Ml T k : Nat} {now sw : Int} {PK : Nat → ByteArray} {U : Nat → Int} {pt : Nat → Nat} {w w' : World} (h : Fill C NW Mc Ml T k now sw PK U pt w) (hb : Below w.heap.size w w') : Fill C NW Mc Ml T k now sw PK U pt w' := by
  have bl : ∀ {b : Nat} {o : Obj}, w.heap[b]? = some o → w'.heap[b]? = some o := fun h => (hb.block _ (Array.getElem?_eq_some_iff.1 h).1).trans h
  obtain ⟨m, hm⟩ := h.ml
  exact ⟨h.ord, ⟨bl h.tk.row, bl h.tk.cnt, bl h.tk.nw⟩, h.mc.below hb, ⟨m, hm.below hb⟩, h.st.kept (hb.block _ hm.lt), fun i hi => bl (h.ls i hi)⟩

/-- One entry more: the lease laid in block P of w, the map written (w'). -/
theorem Fill.step {C NW Mc Ml T k P : Nat} {now sw : Int} {PK : Nat → ByteArray} {U : Nat → Int} {pt : Nat → Nat} {w : World} (h : Fill C NW Mc Ml T k now sw PK U pt w) (hz : (PK k).size ≤ Go.maxLen) (hT : T < P) (hp : ∀ i, i < k → pt i < P)
    (hP : w.heap[P]? = some (.cells (lease (U k)) 78 (0, 0))) : ∃ w', (Instr.mapUpdate 71 (.map (some Ml)) (.string (PK k)) (.pointer (some ⟨P, 0, none⟩))).run Yba.prog w = .ok () w' ∧ But Ml w w' ∧ Fill C NW Mc Ml T (k + 1) now sw PK U (fun j => if j = k then P else pt j) w' := by
  obtain ⟨m, hm⟩ := h.ml
  obtain ⟨o1, o2, o3, o4, o5, o6⟩ := h.ord
  obtain ⟨w', hrun, hbut, hmp⟩ := hm.put keyed Yba.underlying71 (key_str hz) (.pointer (some ⟨P, 0, none⟩))
  refine ⟨w', hrun, hbut, ⟨o1, o2, o3, o4, fun i hi => ?_, fun i j hij hj => ?_⟩, ⟨(hbut.block T (by omega)).trans h.tk.row, (hbut.block C (by omega)).trans h.tk.cnt, (hbut.block NW (by omega)).trans h.tk.nw⟩, h.mc.but hbut (by omega), ⟨_, hmp.congr (fOf_put PK pt k P)⟩, h.st.put hm keyed Yba.underlying71 (key_str hz) _ hrun, fun i hi => ?_⟩
  · show T < if i = k then P else pt i
    split
    · exact hT
    · exact o5 i (by omega)
  · show (if i = k then P else pt i) < if j = k then P else pt j
    rw [if_neg (by omega)]
    split
    · exact hp i (by omega)
    · exact o6 i j hij (by omega)
  · show w'.heap[if i = k then P else pt i]? = _
    split
    · rename_i hik
      subst hik
      exact (hbut.block P (by omega)).trans hP
    · have := o5 i (by omega)
      exact (hbut.block _ (by omega)).trans (h.ls i (by omega))

set_option maxHeartbeats 4000000 in
set_option maxRecDepth 100000 in
theorem lawB_walk (ea : Option Addr) (eb eo n ec : Nat) (PK : Nat → ByteArray) (U : Nat → Int) (sw now pick : Int) (stranger : Bool) (other : ByteArray) (w : World) (hn : n ≤ 4096) (hea : 0 < n → ea = some ⟨eb, eo, none⟩)
    (hp0 : 0 ≤ pick) (hp1 : pick ≤ 255) (hs0 : -9223372036854775808 ≤ sw) (hs1 : sw ≤ 9223372036854775807) (hn0 : -9223372036854775808 ≤ now) (hn1 : now ≤ 9223372036854775807) (hoz : other.size ≤ Go.maxLen)
    (hE : ∀ i, i < n → w.cell? ⟨eb, eo + i * 2, none⟩ = some (.string (PK i))) (hU : ∀ i, i < n → w.cell? ⟨eb, eo + i * 2 + 1, none⟩ = some (.int .i64 (U i))) (hz : ∀ i, i < n → (PK i).size ≤ Go.maxLen) (hUb : ∀ i, i < n → -9223372036854775808 ≤ U i ∧ U i ≤ 9223372036854775807) :
    Calls Yba.prog 4 #[.slice ea n ec, .int .i64 sw, .int .i64 now, .int .u8 pick, .bool stranger, .string other] w fun e w' => e = .returned (.bool true) ∧ Below w.heap.size w w' := by
  have hl1 : ¬ ((4096 : Int) < (n : Int)) := by omega
  have HEA := hid hea
  have HE := hid hE
  have HU := hid hU
  have HZ := hid hz
  have HUB := hid hUb
  clear hea hE hU hz hUb
  go_enter Yba.func4, Yba.ntmps4
  go_upto_region 4 with fail
  go_cut [45] (fun v wx => v = .bool (decide (0 < n ∧ stranger = false)) ∧ w = wx)
  case first =>
    as_aux_lemma =>
    by_cases h0 : 0 < n
    · have h0' : (0 : Int) < (n : Int) := by omega
      cases stranger
      · go_wp2_with fail
        go_meet
        exact ⟨by simp [h0], rfl⟩
      · go_wp2_with fail
        go_meet
        exact ⟨by simp, rfl⟩
    · have h0' : ¬ (0 : Int) < (n : Int) := by omega
      go_wp2_with fail
      go_meet
      exact ⟨by simp [h0], rfl⟩
  case rest =>
  obtain ⟨rfl, hw⟩ := hcut
  subst hw
  go_upto_if 45 with fail
  go_cut [13] (fun v0 wx => ∃ peer, v0 = .string peer ∧ peer.size ≤ Go.maxLen ∧ w = wx)
  case first =>
    as_aux_lemma =>
    by_cases hcond : 0 < n ∧ stranger = false
    · rw [decide_eq_true hcond]
      have h0 := hcond.1
      clear hcond
      obtain rfl := HEA.out h0
      generalize hj : (pick % (n : Int)).toNat = j
      have hj0 : 0 ≤ pick % (n : Int) := Int.emod_nonneg _ (by omega)
      have hj1 : pick % (n : Int) < (n : Int) := Int.emod_lt_of_pos _ (by omega)
      have hjl : j < n := by omega
      have hje : pick % (n : Int) = (j : Int) := by omega
      have c := HE.out j hjl
      have hz := HZ.out j hjl
      have hsn : ¬ (n : Int) = 0 := by omega
      have hsn2 : ¬ n = 0 := by omega
      have hjw : (j : Int) < (n : Int) := by omega
      have hj0w : (0 : Int) ≤ (j : Int) := by omega
      go_wp2_with fail
      go_meet
      exact ⟨_, rfl, hz, rfl⟩
    · rw [decide_eq_false hcond]
      go_wp2_with fail
      go_meet
      exact ⟨_, rfl, hoz, rfl⟩
  case rest =>
    obtain ⟨peer, rfl, hpz, hw⟩ := hcut
    subst hw
    clear hoz hp0 hp1
    have hmf : ∀ (fn : Fn) (first cap : Array Value) (w : World), (Instr.makeFunc fn first cap).run Yba.prog w = .ok (.func fn first cap) w := fun _ _ _ _ => rfl
    generalize hC : w.heap.size = C
    go_wp2_with fail
    generalize hW1 : w.alloc (.cells #[.int .i64 0] 3) = w1
    have hb1 : Below w.heap.size w w1 := by rw [← hW1]; exact (Below.refl _ _).alloc (Nat.le_refl _) _
    have hc1 : w1.heap[C]? = some (.cells #[.int .i64 0] 3 (0, 0)) := by rw [← hW1, ← hC]; exact heap_alloc_new w _
    have HAT := hid (at_any now w1 ⟨hn0, hn1⟩)
    have HB1 := hid hb1
    have HC1 := hid hc1
    have hCl := (Array.getElem?_eq_some_iff.1 hc1).1
    clear hb1 hc1
    refine HAT.out.mono ?_
    rintro e w2 ⟨rfl, hb2⟩
    have HB2 := hid hb2
    have hs2 := hb2.size
    clear hb2 HAT
    have HTR : Hid (∀ wx NW, Calls Yba.prog 11 #[.func (.func 12) #[] #[.pointer (some ⟨C, 0, none⟩), .pointer (some ⟨NW, 0, none⟩)]] wx fun e w' => ∃ Mc Ml, e = .returned (.agg (trow C NW Mc Ml 0 0)) ∧ Below wx.heap.size wx w' ∧ Fresh Mc Ml wx.heap.size w') := fun wx NW => tracker_any C NW wx
    go_wp2_with fail
    refine (HTR.out _ _).mono ?_
    rintro e w4 ⟨Mc, Ml, rfl, hb4, hfr⟩
    have HB4 := hid hb4
    have HFR := hid hfr
    clear hb4 hfr HTR hmf hW1
    have HAS : Hid (∀ wx, Calls Yba.prog 10 #[.int .i64 sw] wx fun e w' => e = .returned (.agg (tv sw)) ∧ Below wx.heap.size wx w') := fun wx => at_any sw wx ⟨hs0, hs1⟩
    go_wp2_with fail
    refine (HAS.out _).mono ?_
    rintro e w6 ⟨rfl, hb6⟩
    generalize hW3 : w2.alloc (.cells #[.int .u64 (now % 1000000000), .int .i64 (now / 1000000000), .pointer none] 60) = w3 at *
    have hs3 : w3.heap.size = w2.heap.size + 1 := by rw [← hW3]; simp
    have nw3 : w3.heap[w2.heap.size]? = some (.cells (tv now) 60 (0, 0)) := by rw [← hW3]; exact heap_alloc_new w2 _
    have bel3 : Below w2.heap.size w2 w3 := by rw [← hW3]; exact (Below.refl _ _).alloc (Nat.le_refl _) _
    have f1 := HFR.out.lo
    have f2 := HFR.out.lt
    have f3 := HFR.out.hi
    generalize hNW : w2.heap.size = NW at *
    generalize hT : w4.heap.size = T at *
    have tr6 : w6.heap[T]? = some (.cells (trow C NW Mc Ml 0 0) 73 (0, 0)) := by
      refine (hb6.block T (by rw [← hT]; simp)).trans ?_
      rw [← hT]; exact heap_alloc_new w4 _
    have bel46 : Below w4.heap.size w4 w6 := by
      have h1 : Below w4.heap.size w4 (w4.alloc (.cells (trow C NW Mc Ml 0 0) 73)) := (Below.refl _ _).alloc (Nat.le_refl _) _
      exact h1.trans (hb6.mono h1.size)
    have bl4 : ∀ {b : Nat} {o : Obj}, w3.heap[b]? = some o → w6.heap[b]? = some o := fun h => by
      have h1 := (Array.getElem?_eq_some_iff.1 h).1
      have h2 := (HB4.out.block _ h1).trans h
      exact (bel46.block _ (Array.getElem?_eq_some_iff.1 h2).1).trans h2
    have ct6 : w6.heap[C]? = some (.cells #[.int .i64 0] 3 (0, 0)) := bl4 ((bel3.block C (by omega)).trans ((HB2.out.block C hCl).trans HC1.out))
    have nw6 := bl4 nw3
    have mc6 := HFR.out.mc.below bel46
    have ml6 := HFR.out.ml.below bel46
    have st6 := HFR.out.st.kept (bel46.block Ml (by omega))
    have hb06 : Below w.heap.size w w6 := by
      have a1 := HB1.out.trans (HB2.out.mono HB1.out.size)
      have a2 := a1.trans ((show Below w2.heap.size w2 w3 by rw [hNW]; exact bel3).mono a1.size)
      have a3 := a2.trans (HB4.out.mono a2.size)
      exact a3.trans (bel46.mono a3.size)
    have hCw : w.heap.size = C := hC
    have g5 : w6.cell? ⟨T, 5, none⟩ = some (.int .u64 0) := by rw [cell_row tr6]; rfl
    have g6 : w6.cell? ⟨T, 6, none⟩ = some (.int .i64 0) := by rw [cell_row tr6]; rfl
    have g7 : w6.cell? ⟨T, 7, none⟩ = some (.pointer none) := by rw [cell_row tr6]; rfl
    have z5 : w6.frozen? ⟨T, 5, none⟩ = false := free_row tr6
    have z6 : w6.frozen? ⟨T, 6, none⟩ = false := free_row tr6
    have z7 : w6.frozen? ⟨T, 7, none⟩ = false := free_row tr6
    have HFILL : Hid (Fill C NW Mc Ml T 0 now sw PK U (fun _ => 0) (((w6.setCell ⟨T, 5, none⟩ (.int .u64 (sw % 1000000000))).setCell ⟨T, 6, none⟩ (.int .i64 (sw / 1000000000))).setCell ⟨T, 7, none⟩ (.pointer none))) := by
      have far : ∀ b, b ≠ T → (((w6.setCell ⟨T, 5, none⟩ (.int .u64 (sw % 1000000000))).setCell ⟨T, 6, none⟩ (.int .i64 (sw / 1000000000))).setCell ⟨T, 7, none⟩ (.pointer none)).heap[b]? = w6.heap[b]? := fun b hb => by rw [heap_far _ _ hb, heap_far _ _ hb, heap_far _ _ hb]
      refine ⟨⟨by omega, by omega, by omega, by omega, fun i hi => absurd hi (by omega), fun i j _ hj => absurd hj (by omega)⟩, ⟨heap_put _ _ (heap_put _ _ (heap_put _ _ tr6)), (far C (by omega)).trans ct6, (far NW (by omega)).trans nw6⟩, mc6.kept (far Mc (by omega)), ⟨0, (ml6.kept (far Ml (by omega))).congr fun x => ?_⟩, st6.kept (far Ml (by omega)), fun i hi => absurd hi (by omega)⟩
      unfold fOf
      split <;> rfl
    have HB7 : Hid (Below w.heap.size w (((w6.setCell ⟨T, 5, none⟩ (.int .u64 (sw % 1000000000))).setCell ⟨T, 6, none⟩ (.int .i64 (sw / 1000000000))).setCell ⟨T, 7, none⟩ (.pointer none))) := ((hb06.setCell (by show w.heap.size ≤ T; omega) _).setCell (by show w.heap.size ≤ T; omega) _).setCell (by show w.heap.size ≤ T; omega) _
    have hNT : w.heap.size ≤ C ∧ C < NW ∧ NW < Mc ∧ Mc < Ml ∧ Ml < T := by omega
    clear tr6 ct6 nw6 mc6 ml6 st6 hb06 bl4 bel46 bel3 nw3 hb6 HB1 HB2 HB4 HC1 HFR HAS f1 f2 f3 hCl hs2 hs3 hW3 hNW hT hC hCw
    go_wp2_with fail
    go_loopw [64] (fun i wr => ∃ (k : Nat) (pt : Nat → Nat), k ≤ n ∧ i = .int .i64 k ∧ Below w.heap.size w wr ∧ Fill C NW Mc Ml T k now sw PK U pt wr) (fun i _ => n - (intOf i).toNat)
    case atStart => exact ⟨0, _, Nat.zero_le _, rfl, HB7.out, HFILL.out⟩
    case round =>
      obtain ⟨k, pt, hk, rfl, hb, hfl⟩ := hrel
      have HFL := hid hfl
      have HB := hid hb
      clear HFILL HB7 g5 g6 g7 z5 z6 z7
      by_cases hkl : k < n
      · have hkl' : (k : Int) < (n : Int) := by omega
        have hk0 : (0 : Int) ≤ (k : Int) := by omega
        obtain rfl := HEA.out (by omega)
        have s0 := cell_later hb (HE.out k hkl)
        have s1 := cell_later hb (HU.out k hkl)
        clear hb hfl
        go_upto_region 13 with fail
        generalize hE : wr.heap.size = E
        generalize hWA : wr.alloc (.cells #[.string (PK k), .int .i64 (U k)] 57) = wa
        have belA : Below wr.heap.size wr wa := by rw [← hWA]; exact (Below.refl _ _).alloc (Nat.le_refl _) _
        have er : wa.heap[E]? = some (.cells #[.string (PK k), .int .i64 (U k)] 57 (0, 0)) := by rw [← hWA, ← hE]; exact heap_alloc_new wr _
        have fla := HFL.out.below belA
        have c4 : wa.cell? ⟨T, 4, none⟩ = some (.map (some Ml)) := by rw [cell_row fla.tk.row]; rfl
        have e0 : wa.cell? ⟨E, 0, none⟩ = some (.string (PK k)) := by rw [cell_row er]; rfl
        have e1 : wa.cell? ⟨E, 1, none⟩ = some (.int .i64 (U k)) := by rw [cell_row er]; rfl
        have hUk := HUB.out k hkl
        have HAT : Hid (∀ wx, Calls Yba.prog 10 #[.int .i64 (U k)] wx fun e w' => e = .returned (.agg #[.int .u64 (U k % 1000000000), .int .i64 (U k / 1000000000), .pointer none]) ∧ Below wx.heap.size wx w') := fun wx => at_any (U k) wx hUk
        have hb0a : Below w.heap.size w wa := HB.out.trans (belA.mono HB.out.size)
        have hTl : T < wa.heap.size := (Array.getElem?_eq_some_iff.1 fla.tk.row).1
        have hTE : T < E := by rw [← hE]; exact (Array.getElem?_eq_some_iff.1 HFL.out.tk.row).1
        have HPUT : Hid (∀ w9, Below wa.heap.size wa w9 → ∃ w11, (Instr.mapUpdate 71 (.map (some Ml)) (.string (PK k)) (.pointer (some ⟨w9.heap.size, 0, none⟩))).run Yba.prog (w9.alloc (.cells #[.int .u64 (U k % 1000000000), .int .i64 (U k / 1000000000), .pointer none, .slice none 0 0] 78)) = .ok () w11 ∧
            (w11.cell? ⟨T, 4, none⟩ = some (.map (some Ml)) ∧ w11.cell? ⟨E, 0, none⟩ = some (.string (PK k)) ∧ w11.cell? ⟨E, 1, none⟩ = some (.int .i64 (U k))) ∧ Hid (Below w.heap.size w w11 ∧ ∃ pt', Fill C NW Mc Ml T (k + 1) now sw PK U pt' w11)) := by
          intro w9 h9
          have belL : Below w9.heap.size w9 (w9.alloc (.cells (lease (U k)) 78)) := (Below.refl _ _).alloc (Nat.le_refl _) _
          have belAL : Below wa.heap.size wa (w9.alloc (.cells (lease (U k)) 78)) := h9.trans (belL.mono h9.size)
          have h9s := h9.size
          obtain ⟨w11, hrun, hbut, hfill⟩ := (fla.below belAL).step (P := w9.heap.size) (HZ.out k hkl) (by omega) (fun i hi => by have := (Array.getElem?_eq_some_iff.1 (fla.ls i hi)).1; omega) (heap_alloc_new w9 _)
          refine ⟨w11, hrun, ⟨?_, ?_, ?_⟩, (hbut.below (hb0a.trans (belAL.mono hb0a.size)) (by omega)), _, hfill⟩
          · exact (hbut.cell (a := ⟨T, 4, none⟩) (by show T ≠ Ml; omega)).trans (cell_later belAL c4)
          · exact (hbut.cell (a := ⟨E, 0, none⟩) (by show E ≠ Ml; omega)).trans (cell_later belAL e0)
          · exact (hbut.cell (a := ⟨E, 1, none⟩) (by show E ≠ Ml; omega)).trans (cell_later belAL e1)
        clear fla er belA hb0a hWA hTl s0 s1 hUk
        go_region_held3 (fun w' => w'.cell? ⟨T, 4, none⟩ = some (.map (some Ml)) ∧ w'.cell? ⟨E, 0, none⟩ = some (.string (PK k)) ∧ w'.cell? ⟨E, 1, none⟩ = some (.int .i64 (U k)))
          (first | (go_keep; done)) (first | (go_at_call 10; refine (HAT.out _).mono ?_; rintro e w9 ⟨rfl, hb9⟩; have hb9' := undrew hb9; have t1 := cell_later hb9' c4; have t2 := cell_later hb9' e0; have t3 := cell_later hb9' e1; obtain ⟨w11, hup, hheld, hfin⟩ := HPUT.out w9 hb9'))
        clear hup hheld hb9 hb9' t1 t2 t3 HPUT HAT c4 e0 e1 HFL HB hTE
        have HFIN := hid hfin
        clear hfin
        go_wp2_with fail
        go_roundw
        case rel => exact ⟨k + 1, HFIN.out.out.2.choose, by omega, by go_num, HFIN.out.out.1, HFIN.out.out.2.choose_spec⟩
        case measure => simp [intOf]; omega
      · have hnn : ¬ (k : Int) < (n : Int) := by omega
        obtain rfl : k = n := by omega
        obtain ⟨m, hml⟩ := hfl.ml
        have HRN := hid (renew_any T C NW Mc Ml k m now sw PK pt U peer wr hfl.ord hfl.tk hml hfl.st hfl.ls HZ.out hpz hn0 hn1)
        generalize hwt : wantOf PK U k peer now = wt at *
        have HWT := hid hwt
        clear hb hfl hml hwt
        go_wp2_with fail
        refine HRN.out.mono ?_
        rintro e w8 ⟨rfl, sp8, tk8, ⟨m8, mp8⟩, ls8⟩
        have ho := HFL.out.ord
        have hb8 : Below w.heap.size w w8 := by
          refine sp8.below HB.out HB.out.size ?_
          rintro b (h | h | h | ⟨i, hi, h⟩)
          · omega
          · omega
          · omega
          · have := ho.2.2.2.2.1 i hi
            omega
        have mc8 : Mp Yba.prog 9 w8 Mc 0 (fun _ => none) := HFL.out.mc.kept (sp8.block Mc HFL.out.mc.lt (by rintro (h | h | h | ⟨i, hi, h⟩); omega; omega; omega; have := ho.2.2.2.2.1 i hi; omega))
        generalize hsw : (if now < sw then sw else now + 30000000000) = sw' at *
        have HSW := hid hsw
        have HB8 := hid hb8
        have HTK := hid tk8
        have HMP := hid mp8
        have HLS := hid ls8
        have HMC := hid mc8
        have HOR := hid ho
        have c1 : w8.cell? ⟨C, 0, none⟩ = some (.int .i64 1) := by rw [cell_row tk8.cnt]; rfl
        clear sp8 tk8 mp8 ls8 mc8 hb8 ho HRN HFL HB hsw
        have HDEC : Hid ((decide (sw ≤ now)) = !decide (now < sw)) := by show _ = _; rw [Bool.eq_iff_iff]; simp
        generalize hsb : decide (sw ≤ now) = sb at *
        go_wp2_with fail
        go_loopw [21, 22, 85] (fun h u i wx => ∃ q : Nat, q ≤ k ∧ i = .int .i64 q ∧ h = .bool (lastTo PK peer q).isSome ∧ u = .int .i64 (puOf PK U peer q) ∧ Below w8.heap.size w8 wx) (fun _ _ i _ => k - (intOf i).toNat)
        case atStart => exact ⟨0, Nat.zero_le _, rfl, rfl, rfl, Below.refl _ _⟩
        case round =>
          obtain ⟨q, hq, rfl, rfl, rfl, hb9⟩ := hrel
          clear hsb
          by_cases hql : q < k
          · as_aux_lemma =>
            have hql' : (q : Int) < (k : Int) := by omega
            have hq0 : (0 : Int) ≤ (q : Int) := by omega
            obtain rfl := HEA.out (by omega)
            have hb0 := HB8.out.trans (hb9.mono HB8.out.size)
            have s0 := cell_later hb0 (HE.out q hql)
            have s1 := cell_later hb0 (HU.out q hql)
            have HB9 := hid hb9
            clear hb9 hb0 c1
            cases he : ((PK q).toList == peer.toList)
            · have e1 : lastTo PK peer (q + 1) = lastTo PK peer q := by simp only [lastTo, he]; rfl
              have e2 : puOf PK U peer (q + 1) = puOf PK U peer q := by simp only [puOf, e1]
              have E1 := hid e1
              have E2 := hid e2
              clear e1 e2
              go_wp2_with fail
              go_roundw
              case rel => exact ⟨q + 1, by omega, by go_num, by rw [E1.out], by rw [E2.out], HB9.out.alloc HB9.out.size _⟩
              case measure => simp [intOf]; omega
            · have e1 : lastTo PK peer (q + 1) = some q := by simp only [lastTo, he, if_true]
              have e2 : puOf PK U peer (q + 1) = U q := by simp only [puOf, e1]
              have E1 := hid e1
              have E2 := hid e2
              clear e1 e2
              go_wp2_with fail
              go_roundw
              case rel => exact ⟨q + 1, by omega, by go_num, by rw [E1.out]; rfl, by rw [E2.out], HB9.out.alloc HB9.out.size _⟩
              case measure => simp [intOf]; omega
          · have hql' : ¬ (q : Int) < (k : Int) := by omega
            obtain rfl : q = k := by omega
            have c1' := cell_later hb9 c1
            have HB9 := hid hb9
            clear hb9 c1
            have hweq := want_eq PK U q peer now
            rw [HWT.out] at hweq
            have HWQ := hid hweq
            clear hweq
            generalize hha : (lastTo PK peer q).isSome = ha at *
            generalize hpu : puOf PK U peer q = pu at *
            go_upto_region 26 with fail
            go_cut [25] (fun v wx => v = .bool wt ∧ wr = wx)
            case first =>
              as_aux_lemma =>
              cases ha
              · have : wt = false := by rw [HWQ.out]; rfl
                subst this
                go_wp2_with fail
                go_meet
                exact ⟨rfl, rfl⟩
              · have : wt = decide (now < pu) := by rw [HWQ.out]; rfl
                have HW := hid this
                clear this
                go_wp2_with fail
                go_meet
                exact ⟨by rw [HW.out], rfl⟩
            case rest =>
              obtain ⟨rfl, hw⟩ := hcut
              subst hw
              have hwx : (wt != wt) = false := by simp
              have HAS : Hid (∀ wx, Calls Yba.prog 10 #[.int .i64 sw] wx fun e w' => e = .returned (.agg (tv sw)) ∧ Below wx.heap.size wx w') := fun wx => at_any sw wx ⟨hs0, hs1⟩
              clear hha hpu HWQ
              go_wp2_with fail
              refine (HAS.out _).mono ?_
              rintro e w10 ⟨rfl, hb10⟩
              have HB10 := hid (HB9.out.trans (hb10.mono HB9.out.size))
              clear hb10 HAS c1' HB9 hwx
              go_upto_if 111 with fail
              generalize hWS : w10.heap.size = WS
              generalize hW11 : w10.alloc (.cells #[.int .u64 (sw % 1000000000), .int .i64 (sw / 1000000000), .pointer none] 60) = w11
              have ws11 : w11.heap[WS]? = some (.cells (tv sw) 60 (0, 0)) := by rw [← hW11, ← hWS]; exact heap_alloc_new w10 _
              have bel11 : Below w10.heap.size w10 w11 := by rw [← hW11]; exact (Below.refl _ _).alloc (Nat.le_refl _) _
              have hb11 : Below w8.heap.size w8 w11 := HB10.out.trans (bel11.mono HB10.out.size)
              have hWS8 : w8.heap.size ≤ WS := by rw [← hWS]; exact HB10.out.size
              have HB11 := hid hb11
              have HWS := hid ws11
              clear bel11 hb11 ws11 hW11 HB10 hWS
              go_cut [12] (fun v wx => v = .bool false ∧ Below w8.heap.size w8 wx ∧ wx.heap[WS]? = some (.cells (tv sw') 60 (0, 0)))
              case first =>
                as_aux_lemma =>
                by_cases hlt : now < sw
                · have hsb2 : sb = false := by rw [HDEC.out, decide_eq_true hlt]; rfl
                  have hs2 : sw' = sw := by rw [← HSW.out, if_pos hlt]
                  subst hsb2 hs2
                  go_wp2_with fail
                  go_meet
                  exact ⟨rfl, HB11.out, HWS.out⟩
                · have hsb2 : sb = true := by rw [HDEC.out, decide_eq_false hlt]; rfl
                  have hs2 : sw' = now + 30000000000 := by rw [← HSW.out, if_neg hlt]
                  subst hsb2
                  have nw11 := (HB11.out.block NW (Array.getElem?_eq_some_iff.1 HTK.out.nw).1).trans HTK.out.nw
                  have a0 : w11.cell? ⟨NW, 0, none⟩ = some (.int .u64 (now % 1000000000)) := by rw [cell_row nw11]; rfl
                  have a1 : w11.cell? ⟨NW, 1, none⟩ = some (.int .i64 (now / 1000000000)) := by rw [cell_row nw11]; rfl
                  have a2 : w11.cell? ⟨NW, 2, none⟩ = some (.pointer none) := by rw [cell_row nw11]; rfl
                  have HAD : Hid (Calls Yba.prog 14 #[.agg #[.int .u64 (now % 1000000000), .int .i64 (now / 1000000000), .pointer none], .int .i64 30000000000] w11 fun e w' => e = .returned (.agg (tv (now + 30000000000))) ∧ Below w11.heap.size w11 w') := add_any now 30000000000 w11 (by omega) (by decide)
                  rw [← hs2] at HAD
                  have HS2 := hid hs2
                  clear nw11 hs2 hlt
                  go_wp2_with fail
                  refine HAD.out.mono ?_
                  rintro e w12 ⟨rfl, hb12⟩
                  have ws12 := (hb12.block WS (Array.getElem?_eq_some_iff.1 HWS.out).1).trans HWS.out
                  have b0 : w12.cell? ⟨WS, 0, none⟩ = some (.int .u64 (sw % 1000000000)) := by rw [cell_row ws12]; rfl
                  have b1 : w12.cell? ⟨WS, 1, none⟩ = some (.int .i64 (sw / 1000000000)) := by rw [cell_row ws12]; rfl
                  have b2 : w12.cell? ⟨WS, 2, none⟩ = some (.pointer none) := by rw [cell_row ws12]; rfl
                  have z0 : w12.frozen? ⟨WS, 0, none⟩ = false := free_row ws12
                  have z1 : w12.frozen? ⟨WS, 1, none⟩ = false := free_row ws12
                  have z2 : w12.frozen? ⟨WS, 2, none⟩ = false := free_row ws12
                  have HB12 := hid (HB11.out.trans (hb12.mono HB11.out.size))
                  have HWS12 := hid ws12
                  clear ws12 hb12 HAD
                  go_wp2_with fail
                  go_meet
                  exact ⟨rfl, ((HB12.out.setCell hWS8 _).setCell hWS8 _).setCell hWS8 _, heap_put _ _ (heap_put _ _ (heap_put _ _ HWS12.out))⟩
              case rest =>
                obtain ⟨rfl, hb12, ws12⟩ := hcut
                generalize hW12 : wc = w12 at *
                clear hW12 HB11 HWS
                have bl12 : ∀ {b : Nat} {o : Obj}, w8.heap[b]? = some o → w12.heap[b]? = some o := fun h => (hb12.block _ (Array.getElem?_eq_some_iff.1 h).1).trans h
                have tr12 := bl12 HTK.out.row
                have a5 : w12.cell? ⟨T, 5, none⟩ = some (.int .u64 (sw' % 1000000000)) := by rw [cell_row tr12]; rfl
                have a6 : w12.cell? ⟨T, 6, none⟩ = some (.int .i64 (sw' / 1000000000)) := by rw [cell_row tr12]; rfl
                have a7 : w12.cell? ⟨T, 7, none⟩ = some (.pointer none) := by rw [cell_row tr12]; rfl
                have b0 : w12.cell? ⟨WS, 0, none⟩ = some (.int .u64 (sw' % 1000000000)) := by rw [cell_row ws12]; rfl
                have b1 : w12.cell? ⟨WS, 1, none⟩ = some (.int .i64 (sw' / 1000000000)) := by rw [cell_row ws12]; rfl
                have b2 : w12.cell? ⟨WS, 2, none⟩ = some (.pointer none) := by rw [cell_row ws12]; rfl
                have HEQ : Hid (Calls Yba.prog 15 #[.agg #[.int .u64 (sw' % 1000000000), .int .i64 (sw' / 1000000000), .pointer none], .agg #[.int .u64 (sw' % 1000000000), .int .i64 (sw' / 1000000000), .pointer none]] w12 fun e w' => e = .returned (.bool true) ∧ Below w12.heap.size w12 w') := by
                  have := equal_any sw' sw' w12
                  rw [decide_eq_true rfl] at this
                  exact this
                have HB12 := hid hb12
                clear hb12 tr12 bl12 ws12
                go_wp2_with fail
                refine HEQ.out.mono ?_
                rintro e w13 ⟨rfl, hb13⟩
                have hb813 : Below w8.heap.size w8 w13 := HB12.out.trans (hb13.mono HB12.out.size)
                have mc13 := HMC.out.below hb813
                have c3 : w13.cell? ⟨T, 3, none⟩ = some (.map (some Mc)) := by rw [cell_row ((hb813.block T (Array.getElem?_eq_some_iff.1 HTK.out.row).1).trans HTK.out.row)]; rfl
                have hlen := mc13.length Yba.underlying70
                have HB13 := hid hb813
                clear hb813 hb13 mc13 a5 a6 a7 b0 b1 b2 HEQ HB12
                go_wp2_with fail
                clear c3 hlen
                generalize hKf : (fun i => decide (now < sw) || decide (now < U i)) = Kf at *
                have HKF := hid hKf
                clear hKf
                go_loopw [27, 125] (fun c i wx => ∃ a : Nat, a ≤ q ∧ i = .int .i64 a ∧ c = .int .i64 ((kept PK q Kf a).length : Nat) ∧ Below w8.heap.size w8 wx) (fun _ i _ => q - (intOf i).toNat)
                case atStart => exact ⟨0, Nat.zero_le _, rfl, rfl, HB13.out⟩
                case round =>
                  obtain ⟨a, ha2, rfl, rfl, hb14⟩ := hrel
                  clear HB13
                  by_cases hal : a < q
                  · have hal' : (a : Int) < (q : Int) := by omega
                    have ha0 : (0 : Int) ≤ (a : Int) := by omega
                    obtain rfl := HEA.out (by omega)
                    have hb0 := HB8.out.trans (hb14.mono HB8.out.size)
                    have s0 := cell_later hb0 (HE.out a hal)
                    have s1 := cell_later hb0 (HU.out a hal)
                    have hkl0 := kept_len PK q Kf a
                    generalize hcn : (kept PK q Kf a).length = cn at *
                    have HCN := hid hcn
                    have HB14 := hid hb14
                    have HB0 := hid hb0
                    clear hb14 hb0 hcn
                    go_wp2_with fail
                    generalize hE : wr.heap.size = E at *
                    generalize hWE : wr.alloc (.cells #[.string (PK a), .int .i64 (U a)] 57) = wE
                    have belE : Below wr.heap.size wr wE := by rw [← hWE]; exact (Below.refl _ _).alloc (Nat.le_refl _) _
                    have er : wE.heap[E]? = some (.cells #[.string (PK a), .int .i64 (U a)] 57 (0, 0)) := by rw [← hWE, ← hE]; exact heap_alloc_new wr _
                    have HBE := hid (HB14.out.trans (belE.mono HB14.out.size))
                    have HB0E := hid (HB0.out.trans (belE.mono HB0.out.size))
                    have HER := hid er
                    clear belE er hWE hE s0 s1 HB14 HB0
                    go_loopw [30, 31] (fun l j wx => ∃ b : Nat, a + 1 ≤ b ∧ b ≤ q ∧ j = .int .i64 b ∧ l = .bool true ∧ lastTo PK (PK a) b = some a ∧ Below wE.heap.size wE wx) (fun _ j _ => q - (intOf j).toNat)
                    case atStart => exact ⟨a + 1, Nat.le_refl _, by omega, by go_num, rfl, lastTo_at PK a, Below.refl _ _⟩
                    case round =>
                      obtain ⟨b, hb1, hb2, rfl, rfl, hla, hb15⟩ := hrel
                      have e0 : wr.cell? ⟨E, 0, none⟩ = some (.string (PK a)) := cell_later hb15 (by rw [cell_row HER.out]; rfl)
                      have e1 : wr.cell? ⟨E, 1, none⟩ = some (.int .i64 (U a)) := cell_later hb15 (by rw [cell_row HER.out]; rfl)
                      have HB15 := hid hb15
                      have HLA := hid hla
                      have HB0R := hid (HB0E.out.trans (hb15.mono HB0E.out.size))
                      have HB8R := hid (HBE.out.trans (hb15.mono HBE.out.size))
                      clear hb15 hla
                      by_cases hbl : b < q
                      · as_aux_lemma =>
                        have hbl' : (b : Int) < (q : Int) := by omega
                        have hb0' : (0 : Int) ≤ (b : Int) := by omega
                        have s2 := cell_later HB0R.out (HE.out b hbl)
                        cases he : ((PK b).toList == (PK a).toList)
                        · have HN : Hid (lastTo PK (PK a) (b + 1) = some a) := by show _ = _; simp only [lastTo, he]; exact HLA.out
                          go_wp2_with fail
                          go_quiet (fail)
                          go_wp2_with fail
                          go_roundw
                          case rel => exact ⟨b + 1, by omega, by omega, by go_num, rfl, HN.out, below_drewN HB15.out _⟩
                          case measure => simp [intOf]; omega
                        · have HN : Hid ((kept PK q Kf (a + 1)).length = cn) := by
                            show _ = _
                            have h1 : lastTo PK (PK a) (b + 1) = some b := by simp only [lastTo, he, if_true]
                            obtain ⟨L, h2, h3⟩ := lastTo_ge PK (PK a) h1 q (by omega)
                            rw [kept, if_neg (by rintro ⟨h4, _⟩; rw [h3] at h4; simp at h4; omega)]
                            simpa using HCN.out
                          go_wp2_with fail
                          go_quiet (fail)
                          go_wp2_with fail
                          go_roundw
                          case rel => exact ⟨a + 1, by omega, by go_num, by rw [HN.out], below_drewN HB8R.out _⟩
                          case measure => simp [intOf]; omega
                      · have hbl' : ¬ (b : Int) < (q : Int) := by omega
                        obtain rfl : b = q := by omega
                        have bl : ∀ {b : Nat} {o : Obj}, w8.heap[b]? = some o → wr.heap[b]? = some o := fun h => (HB8R.out.block _ (Array.getElem?_eq_some_iff.1 h).1).trans h
                        have c4 : wr.cell? ⟨T, 4, none⟩ = some (.map (some Ml)) := by rw [cell_row (bl HTK.out.row)]; rfl
                        have hlk := (HMP.out.below HB8R.out).look keyed Yba.underlying71 (zero75 wr) (key_str (HZ.out a hal)) false
                        rw [fOf_at HLA.out] at hlk
                        simp only [Bool.false_eq_true, if_false] at hlk
                        have hKa : Kf a = (decide (now < sw) || decide (now < U a)) := by rw [← HKF.out]
                        have HPA := hid (bl (HLS.out a hal))
                        have HNW := hid (bl HTK.out.nw)
                        clear bl
                        generalize hka : Kf a = ka at *
                        have HKA := hid hka
                        have HKD := hid hKa
                        clear hka hKa
                        generalize hlv : (if ka = true then some (Value.pointer (some ⟨pt a, 0, none⟩)) else none).getD (.pointer none) = lv at hlk
                        have HLV := hid hlv
                        clear hlv
                        go_upto_region 48 with fail
                        clear hlk
                        go_cut [33] (fun v wx => v = .bool ka ∧ wr = wx)
                        case first =>
                          as_aux_lemma =>
                          by_cases hlt : now < sw
                          · have hsb2 : sb = false := by rw [HDEC.out, decide_eq_true hlt]; rfl
                            have hka2 : ka = true := by rw [HKD.out, decide_eq_true hlt]; rfl
                            subst hsb2 hka2
                            go_wp2_with fail
                            go_meet
                            exact ⟨rfl, rfl⟩
                          · have hsb2 : sb = true := by rw [HDEC.out, decide_eq_false hlt]; rfl
                            have hka2 : ka = decide (now < U a) := by rw [HKD.out, decide_eq_false hlt]; rfl
                            have HK2 := hid hka2
                            subst hsb2
                            clear hka2 hlt
                            go_wp2_with fail
                            go_meet
                            exact ⟨by rw [HK2.out], rfl⟩
                        case rest =>
                          obtain ⟨rfl, hw⟩ := hcut
                          subst hw
                          cases ka
                          · as_aux_lemma =>
                            have HN : Hid ((kept PK b Kf (a + 1)).length = cn) := by
                              show _ = _
                              rw [kept, if_neg (by rintro ⟨_, h4⟩; rw [HKA.out] at h4; cases h4)]
                              simpa using HCN.out
                            obtain rfl : Value.pointer none = lv := HLV.out
                            go_wp2_with fail
                            go_roundw
                            case rel => exact ⟨a + 1, by omega, by go_num, by rw [HN.out], HB8R.out⟩
                            case measure => simp [intOf]; omega
                          · have HN : Hid ((kept PK b Kf (a + 1)).length = cn + 1) := by
                              show _ = _
                              rw [kept, if_pos ⟨HLA.out, HKA.out⟩]
                              simpa using HCN.out
                            obtain rfl : Value.pointer (some ⟨pt a, 0, none⟩) = lv := HLV.out
                            have p3 : wr.cell? ⟨pt a, 3, none⟩ = some (.slice none 0 0) := by rw [cell_row HPA.out]; rfl
                            have hUa := HUB.out a hal
                            have HAT := hid (at_any (U a) wr hUa)
                            have hends : ends PK U b peer now a = if (((PK a).toList == peer.toList) && wt) = true then now + 30000000000 else U a := by
                              unfold ends
                              have hwt := HWT.out
                              cases hpe : ((PK a).toList == peer.toList)
                              · have hne := toList_ne.1 hpe
                                rw [if_neg (by rintro ⟨h1, _⟩; exact hne (lastTo_key PK peer b a h1))]
                                rfl
                              · have heq := toList_iff.1 hpe
                                have hla := HLA.out
                                rw [heq] at hla
                                have hw2 : wt = decide (now < U a) := by rw [← hwt]; simp [wantOf, hla]
                                rw [hw2]
                                by_cases hd : now < U a
                                · simp [hla, hd]
                                · simp [hd]
                            generalize hen : ends PK U b peer now a = en at *
                            have HEN := hid hends
                            clear hends hen
                            go_wp2_with fail
                            refine HAT.out.mono ?_
                            rintro e w14 ⟨rfl, hb14⟩
                            have HB14 := hid hb14
                            have E0 := hid (cell_later hb14 e0)
                            clear hb14 HAT p3 c4 e0 e1 hUa
                            have e0' := E0.out
                            go_upto_region 56 with fail
                            generalize hWU : w14.heap.size = WU
                            generalize hW15 : w14.alloc (.cells #[.int .u64 (U a % 1000000000), .int .i64 (U a / 1000000000), .pointer none] 60) = w15
                            have bel15 : Below w14.heap.size w14 w15 := by rw [← hW15]; exact (Below.refl _ _).alloc (Nat.le_refl _) _
                            have wu15 : w15.heap[WU]? = some (.cells (tv (U a)) 60 (0, 0)) := by rw [← hW15, ← hWU]; exact heap_alloc_new w14 _
                            have hbr15 : Below wr.heap.size wr w15 := HB14.out.trans (bel15.mono HB14.out.size)
                            have hWUr : wr.heap.size ≤ WU := by rw [← hWU]; exact HB14.out.size
                            have e15 := cell_later bel15 e0'
                            have HBR := hid hbr15
                            have HWU := hid wu15
                            clear bel15 wu15 hbr15 hW15 hWU E0 e0' HB14
                            go_cut [186] (fun v wx => v = .bool (((PK a).toList == peer.toList) && wt) ∧ w15 = wx)
                            case first =>
                              as_aux_lemma =>
                              cases hpe : ((PK a).toList == peer.toList)
                              · have HPE := hid hpe
                                go_wp2_with fail
                                go_meet
                                exact ⟨by rw [HPE.out]; rfl, rfl⟩
                              · have HPE := hid hpe
                                go_wp2_with fail
                                go_meet
                                exact ⟨by rw [HPE.out]; rfl, rfl⟩
                            case rest =>
                              obtain ⟨rfl, hw⟩ := hcut
                              subst hw
                              generalize hcc : (((PK a).toList == peer.toList) && wt) = cc at *
                              clear hcc e15
                              go_upto_if 186 with fail
                              go_cut [12] (fun _ wx => Below wr.heap.size wr wx ∧ wx.heap[WU]? = some (.cells (tv en) 60 (0, 0)))
                              case first =>
                                as_aux_lemma =>
                                cases cc
                                · have h2 : en = U a := by rw [HEN.out]; rfl
                                  subst h2
                                  go_wp2_with fail
                                  go_meet
                                  exact ⟨HBR.out, HWU.out⟩
                                · have h2 : en = now + 30000000000 := by rw [HEN.out]; rfl
                                  have nw15 := (HBR.out.block NW (Array.getElem?_eq_some_iff.1 HNW.out).1).trans HNW.out
                                  have x0 : w15.cell? ⟨NW, 0, none⟩ = some (.int .u64 (now % 1000000000)) := by rw [cell_row nw15]; rfl
                                  have x1 : w15.cell? ⟨NW, 1, none⟩ = some (.int .i64 (now / 1000000000)) := by rw [cell_row nw15]; rfl
                                  have x2 : w15.cell? ⟨NW, 2, none⟩ = some (.pointer none) := by rw [cell_row nw15]; rfl
                                  have HAD : Hid (Calls Yba.prog 14 #[.agg #[.int .u64 (now % 1000000000), .int .i64 (now / 1000000000), .pointer none], .int .i64 30000000000] w15 fun e w' => e = .returned (.agg (tv (now + 30000000000))) ∧ Below w15.heap.size w15 w') := add_any now 30000000000 w15 (by omega) (by decide)
                                  rw [← h2] at HAD
                                  clear nw15 h2
                                  go_wp2_with fail
                                  refine HAD.out.mono ?_
                                  rintro e w16 ⟨rfl, hb16⟩
                                  have wu16 := (hb16.block WU (Array.getElem?_eq_some_iff.1 HWU.out).1).trans HWU.out
                                  have b0 : w16.cell? ⟨WU, 0, none⟩ = some (.int .u64 (U a % 1000000000)) := by rw [cell_row wu16]; rfl
                                  have b1 : w16.cell? ⟨WU, 1, none⟩ = some (.int .i64 (U a / 1000000000)) := by rw [cell_row wu16]; rfl
                                  have b2 : w16.cell? ⟨WU, 2, none⟩ = some (.pointer none) := by rw [cell_row wu16]; rfl
                                  have z0 : w16.frozen? ⟨WU, 0, none⟩ = false := free_row wu16
                                  have z1 : w16.frozen? ⟨WU, 1, none⟩ = false := free_row wu16
                                  have z2 : w16.frozen? ⟨WU, 2, none⟩ = false := free_row wu16
                                  have HB16 := hid (HBR.out.trans (hb16.mono HBR.out.size))
                                  have HWU16 := hid wu16
                                  clear wu16 hb16 HAD
                                  go_wp2_with fail
                                  go_meet
                                  exact ⟨((HB16.out.setCell hWUr _).setCell hWUr _).setCell hWUr _, heap_put _ _ (heap_put _ _ (heap_put _ _ HWU16.out))⟩
                              case rest =>
                                obtain ⟨hb17, wu17⟩ := hcut
                                generalize hW17 : wc = w17 at *
                                clear hW17 HBR HWU
                                have pa17 := (hb17.block (pt a) (Array.getElem?_eq_some_iff.1 HPA.out).1).trans HPA.out
                                have x0 : w17.cell? ⟨pt a, 0, none⟩ = some (.int .u64 (en % 1000000000)) := by rw [cell_row pa17]; rfl
                                have x1 : w17.cell? ⟨pt a, 1, none⟩ = some (.int .i64 (en / 1000000000)) := by rw [cell_row pa17]; rfl
                                have x2 : w17.cell? ⟨pt a, 2, none⟩ = some (.pointer none) := by rw [cell_row pa17]; rfl
                                have y0 : w17.cell? ⟨WU, 0, none⟩ = some (.int .u64 (en % 1000000000)) := by rw [cell_row wu17]; rfl
                                have y1 : w17.cell? ⟨WU, 1, none⟩ = some (.int .i64 (en / 1000000000)) := by rw [cell_row wu17]; rfl
                                have y2 : w17.cell? ⟨WU, 2, none⟩ = some (.pointer none) := by rw [cell_row wu17]; rfl
                                have HEQ : Hid (∀ wx, Calls Yba.prog 15 #[.agg #[.int .u64 (en % 1000000000), .int .i64 (en / 1000000000), .pointer none], .agg #[.int .u64 (en % 1000000000), .int .i64 (en / 1000000000), .pointer none]] wx fun e w' => e = .returned (.bool true) ∧ Below wx.heap.size wx w') := fun wx => by
                                  have := equal_any en en wx
                                  rw [decide_eq_true rfl] at this
                                  exact this
                                have HB17 := hid (HB8R.out.trans (hb17.mono HB8R.out.size))
                                clear hb17 pa17 wu17
                                go_wp2_with fail
                                go_region_held3 (fun w' => w'.cell? ⟨pt a, 0, none⟩ = some (.int .u64 (en % 1000000000)) ∧ w'.cell? ⟨pt a, 1, none⟩ = some (.int .i64 (en / 1000000000)) ∧ w'.cell? ⟨pt a, 2, none⟩ = some (.pointer none) ∧
                                    w'.cell? ⟨WU, 0, none⟩ = some (.int .u64 (en % 1000000000)) ∧ w'.cell? ⟨WU, 1, none⟩ = some (.int .i64 (en / 1000000000)) ∧ w'.cell? ⟨WU, 2, none⟩ = some (.pointer none))
                                  (first | (go_keep; done)) (first | (go_at_call 15; refine (HEQ.out _).mono ?_; rintro e w18 ⟨rfl, hb18⟩; have hb18' := undrew hb18; have t1 := cell_later hb18' x0; have t2 := cell_later hb18' x1; have t3 := cell_later hb18' x2; have t4 := cell_later hb18' y0; have t5 := cell_later hb18' y1; have t6 := cell_later hb18' y2))
                                have HB18 : Hid (Below w8.heap.size w8 w18) := HB17.out.trans (hb18'.mono HB17.out.size)
                                clear hb18 hb18' t1 t2 t3 t4 t5 t6 x0 x1 x2 y0 y1 y2
                                go_wp2_with fail
                                go_roundw
                                case rel => exact ⟨a + 1, by omega, by go_num, by rw [HN.out]; go_num, HB18.out⟩
                                case measure => simp [intOf]; omega
                  · have hal' : ¬ (a : Int) < (q : Int) := by omega
                    obtain rfl : a = q := by omega
                    have mp14 := HMP.out.below hb14
                    have hcnt := mp14.count _ (kept_nodup PK a Kf a) (fun x => kept_all PK pt a Kf x)
                    have c4 : wr.cell? ⟨T, 4, none⟩ = some (.map (some Ml)) := by rw [cell_row ((hb14.block T (Array.getElem?_eq_some_iff.1 HTK.out.row).1).trans HTK.out.row)]; rfl
                    have hlen := mp14.length Yba.underlying71
                    rw [hcnt] at hlen
                    generalize (kept PK a Kf a).length = cn at *
                    have HBF := hid (HB8.out.trans (hb14.mono HB8.out.size))
                    clear hb14 mp14 hcnt
                    go_wp2_with fail
                    go_ret
                    exact ⟨by first | rfl | simp, HBF.out⟩

end Go.Proofs.Ybulketto.B
