/-
  LawS7281BWhole: the contract of (*tracker).at (30): the clock, and the sweep.
-/
import Derived.Test.YbulkettoBLeaf
namespace Go.Proofs.Ybulketto.B
open Go.RowKit Go.Maps Classical
open Go.Proofs.Ybulketto.C (hid cell_later cell_row free_row heap_put heap_far lock_at keyed key_str toList_iff toList_ne lastTo lastTo_lt)
attribute [local go_sem ↓] Go.wp_at_zero Go.wp_at_succ

/-- The leases by their peers: the last of each peer, where K keeps it. -/
def fOf (PK : Nat → ByteArray) (pt : Nat → Nat) (n : Nat) (K : Nat → Bool) : Value → Option Value
  | .string x => (lastTo PK x n).bind fun i => if K i then some (.pointer (some ⟨pt i, 0, none⟩)) else none
  | _ => none

/-- The tracker. -/
abbrev trow (C NW Mc Ml : Nat) (st sw : Int) : Array Value :=
  #[.func (.func 12) #[] #[.pointer (some ⟨C, 0, none⟩), .pointer (some ⟨NW, 0, none⟩)], .int .i32 st, .int .u32 0, .map (some Mc), .map (some Ml), .int .u64 (sw % 1000000000), .int .i64 (sw / 1000000000), .pointer none]
structure Tk (T C NW Mc Ml : Nat) (st c now sw : Int) (w : World) : Prop where
  row : w.heap[T]? = some (.cells (trow C NW Mc Ml st sw) 73 (0, 0))
  cnt : w.heap[C]? = some (.cells #[.int .i64 c] 3 (0, 0))
  nw : w.heap[NW]? = some (.cells (tv now) 60 (0, 0))
/-- The blocks lie apart. -/
def Ord (C NW Mc Ml T n : Nat) (pt : Nat → Nat) : Prop := C < NW ∧ NW < Mc ∧ Mc < Ml ∧ Ml < T ∧ (∀ i, i < n → T < pt i) ∧ ∀ i j, i < j → j < n → pt i < pt j
def Ls (n : Nat) (pt : Nat → Nat) (U : Nat → Int) (w : World) : Prop := ∀ i, i < n → w.heap[pt i]? = some (.cells (lease (U i)) 78 (0, 0))

theorem fOf_some {PK : Nat → ByteArray} {pt : Nat → Nat} {n : Nat} {K : Nat → Bool} {s v : Value} (h : fOf PK pt n K s = some v) : ∃ x i, s = .string x ∧ lastTo PK x n = some i ∧ i < n ∧ K i = true ∧ v = .pointer (some ⟨pt i, 0, none⟩) := by
  unfold fOf at h
  split at h
  · rename_i x
    cases hl : lastTo PK x n with
    | none => rw [hl] at h; cases h
    | some i =>
      rw [hl] at h
      simp only [Option.bind_some] at h
      split at h
      · rename_i hk
        exact ⟨x, i, rfl, hl, lastTo_lt PK x n i hl, hk, (Option.some.inj h).symm⟩
      · cases h
  · cases h
theorem fOf_at {PK : Nat → ByteArray} {pt : Nat → Nat} {n : Nat} {K : Nat → Bool} {x : ByteArray} {i : Nat} (h : lastTo PK x n = some i) : fOf PK pt n K (.string x) = if K i then some (.pointer (some ⟨pt i, 0, none⟩)) else none := by
  simp [fOf, h]
theorem lastTo_key (PK : Nat → ByteArray) (x : ByteArray) : ∀ n i, lastTo PK x n = some i → PK i = x
  | 0, i, h => by cases h
  | n + 1, i, h => by
    simp only [lastTo] at h
    split at h
    · rename_i hq
      obtain rfl : n = i := by simpa using h
      exact toList_iff.1 hq
    · exact lastTo_key PK x n i h

set_option maxHeartbeats 2000000 in
set_option maxRecDepth 100000 in
theorem sweep_any (T C NW Mc Ml n m : Nat) (st now sw : Int) (PK : Nat → ByteArray) (pt : Nat → Nat) (U : Nat → Int) (w : World) (ho : Ord C NW Mc Ml T n pt) (ht : Tk T C NW Mc Ml st 0 now sw w) (hm : Mp Yba.prog 9 w Ml m (fOf PK pt n fun _ => true)) (hs : St w Ml)
    (hl : Ls n pt U w) (hz : ∀ i, i < n → (PK i).size ≤ Go.maxLen) (hn0 : -9223372036854775808 ≤ now) (hn1 : now ≤ 9223372036854775807) :
    Calls Yba.prog 30 #[.pointer (some ⟨T, 0, none⟩)] w fun e w' => e = .returned (.agg (tv now)) ∧ Sp (fun b => b = C ∨ b = T ∨ b = Ml) w w' ∧ Tk T C NW Mc Ml st 1 now (if now < sw then sw else now + 30000000000) w' ∧
      ∃ m', Mp Yba.prog 9 w' Ml m' (fOf PK pt n fun i => decide (now < sw) || decide (now < U i)) := by
  obtain ⟨o1, o2, o3, o4, o5, o6⟩ := ho
  have hTl := (Array.getElem?_eq_some_iff.1 ht.row).1
  have hCl := (Array.getElem?_eq_some_iff.1 ht.cnt).1
  have hNl := (Array.getElem?_eq_some_iff.1 ht.nw).1
  have hMl := hm.lt
  generalize hW1 : w.alloc (.cells #[.int .u64 0, .int .i64 0, .pointer none] 60) = w1
  have bel1 : Below w.heap.size w w1 := by rw [← hW1]; exact (Below.refl _ _).alloc (Nat.le_refl _) _
  have sz1 : w1.heap.size = w.heap.size + 1 := by rw [← hW1]; simp
  have hrow : w1.heap[w.heap.size]? = some (.cells #[.int .u64 0, .int .i64 0, .pointer none] 60 (0, 0)) := by rw [← hW1]; exact heap_alloc_new w _
  have k0 : w1.cell? ⟨T, 0, none⟩ = some (.func (.func 12) #[] #[.pointer (some ⟨C, 0, none⟩), .pointer (some ⟨NW, 0, none⟩)]) := by rw [cell_row ((bel1.block T hTl).trans ht.row)]; rfl
  have HCK := hid (clock_any C NW 0 now w1 (by omega) (by decide) (by decide) ((bel1.block C hCl).trans ht.cnt) ((bel1.block NW hNl).trans ht.nw))
  have HT := hid ht
  have HM := hid hm
  have HST := hid hs
  have HL := hid hl
  have HZ := hid hz
  have HB1 := hid bel1
  have HRW := hid hrow
  have HO5 := hid o5
  clear ht hm hs hl hz bel1 hrow o5 o6
  go_enter Yba.func30, Yba.ntmps30
  go_wp2_with fail
  refine HCK.out.mono ?_
  rintro e w2 ⟨rfl, sp2, hc2⟩
  have HSP2 := hid sp2
  have HC2 := hid hc2
  have hsz2 := sp2.size
  clear sp2 hc2 HCK k0
  go_wp2_with fail
  have sp2 := HSP2.out
  have hc2 := HC2.out
  generalize hNB : w2.heap.size = NB
  generalize hW3 : w2.alloc (.cells #[.int .u64 (now % 1000000000), .int .i64 (now / 1000000000), .pointer none] 60) = w3
  have bel3 : Below w2.heap.size w2 w3 := by rw [← hW3]; exact (Below.refl _ _).alloc (Nat.le_refl _) _
  have hnb : w3.heap[NB]? = some (.cells (tv now) 60 (0, 0)) := by rw [← hW3, ← hNB]; exact heap_alloc_new w2 _
  have spw : Sp (fun b => b = C) w w3 := (Sp.of HB1.out).trans (sp2.trans (Sp.of bel3))
  have rb3 : w3.heap[w.heap.size]? = some (.cells #[.int .u64 0, .int .i64 0, .pointer none] 60 (0, 0)) := (bel3.block _ (by omega)).trans ((sp2.block _ (by omega) (by omega)).trans HRW.out)
  have tr3 : w3.heap[T]? = some (.cells (trow C NW Mc Ml st sw) 73 (0, 0)) := (spw.block T hTl (by omega)).trans HT.out.row
  have ct3 : w3.heap[C]? = some (.cells #[.int .i64 1] 3 (0, 0)) := (bel3.block C (by omega)).trans hc2
  have nw3 : w3.heap[NW]? = some (.cells (tv now) 60 (0, 0)) := (spw.block NW hNl (by omega)).trans HT.out.nw
  have mp3 : Mp Yba.prog 9 w3 Ml m (fOf PK pt n fun _ => true) := HM.out.kept (spw.block Ml hMl (by omega))
  have st3 : St w3 Ml := HST.out.kept (spw.block Ml hMl (by omega))
  have ls3 : Ls n pt U w3 := fun i hi => (spw.block _ (Array.getElem?_eq_some_iff.1 (HL.out i hi)).1 (by have := HO5.out i hi; omega)).trans (HL.out i hi)
  have nbl : NB < w3.heap.size := (Array.getElem?_eq_some_iff.1 hnb).1
  have x0 : w3.cell? ⟨NB, 0, none⟩ = some (.int .u64 (now % 1000000000)) := by rw [cell_row hnb]; rfl
  have x1 : w3.cell? ⟨NB, 1, none⟩ = some (.int .i64 (now / 1000000000)) := by rw [cell_row hnb]; rfl
  have x2 : w3.cell? ⟨NB, 2, none⟩ = some (.pointer none) := by rw [cell_row hnb]; rfl
  have y0 : w3.cell? ⟨T, 5, none⟩ = some (.int .u64 (sw % 1000000000)) := by rw [cell_row tr3]; rfl
  have y1 : w3.cell? ⟨T, 6, none⟩ = some (.int .i64 (sw / 1000000000)) := by rw [cell_row tr3]; rfl
  have y2 : w3.cell? ⟨T, 7, none⟩ = some (.pointer none) := by rw [cell_row tr3]; rfl
  have HBF : Hid (∀ wx, Calls Yba.prog 42 #[.agg #[.int .u64 (now % 1000000000), .int .i64 (now / 1000000000), .pointer none], .agg #[.int .u64 (sw % 1000000000), .int .i64 (sw / 1000000000), .pointer none]] wx fun e w' => e = .returned (.bool (decide (now < sw))) ∧ Below wx.heap.size wx w') := fun wx => before_any now sw wx
  have HSPW := hid spw
  have RB3 := hid rb3
  have TR3 := hid tr3
  have CT3 := hid ct3
  have NW3 := hid nw3
  have MP3 := hid mp3
  have ST3 := hid st3
  have LS3 := hid ls3
  have HNB3 := hid hnb
  clear spw rb3 tr3 ct3 nw3 mp3 st3 ls3 bel3 sp2 hc2 hnb HT HM HST HL HB1 HRW HSP2 HC2
  go_region_held3 (fun w' => w'.cell? ⟨NB, 0, none⟩ = some (.int .u64 (now % 1000000000)) ∧ w'.cell? ⟨NB, 1, none⟩ = some (.int .i64 (now / 1000000000)) ∧ w'.cell? ⟨NB, 2, none⟩ = some (.pointer none) ∧
      w'.cell? ⟨T, 5, none⟩ = some (.int .u64 (sw % 1000000000)) ∧ w'.cell? ⟨T, 6, none⟩ = some (.int .i64 (sw / 1000000000)) ∧ w'.cell? ⟨T, 7, none⟩ = some (.pointer none))
    (first | (go_keep; done)) (first | (go_at_call 42; refine (HBF.out _).mono ?_; rintro e w9 ⟨rfl, hb9⟩; have hb9' := undrew hb9; have t1 := cell_later hb9' x0; have t2 := cell_later hb9' x1; have t3 := cell_later hb9' x2; have t4 := cell_later hb9' y0; have t5 := cell_later hb9' y1; have t6 := cell_later hb9' y2))
  have spw9 : Sp (fun b => b = C) w w9 := HSPW.out.trans (Sp.of hb9')
  have blk : ∀ {b : Nat} {o : Obj}, w3.heap[b]? = some o → w9.heap[b]? = some o := fun h => (hb9'.block _ (Array.getElem?_eq_some_iff.1 h).1).trans h
  have rb9 := blk RB3.out
  have tr9 := blk TR3.out
  have ct9 := blk CT3.out
  have nw9 := blk NW3.out
  have mp9 := MP3.out.below hb9'
  have st9 := ST3.out.kept (hb9'.block Ml MP3.out.lt)
  have ls9 : Ls n pt U w9 := fun i hi => blk (LS3.out i hi)
  have nb9 := blk HNB3.out
  have nbw : w.heap.size < NB := by omega
  have HSPW9 := hid spw9
  have RB9 := hid rb9
  have TR9 := hid tr9
  have CT9 := hid ct9
  have NW9 := hid nw9
  have MP9 := hid mp9
  have ST9 := hid st9
  have LS9 := hid ls9
  have NB9 := hid nb9
  clear hb9 hb9' t1 t2 t3 t4 t5 t6 x0 x1 x2 y0 y1 y2 spw9 blk rb9 tr9 ct9 nw9 mp9 st9 ls9 nb9 RB3 TR3 CT3 NW3 MP3 ST3 LS3 HNB3 HSPW hW3 nbl HBF
  by_cases hlt : now < sw
  · have e0 : w9.cell? ⟨w.heap.size, 0, none⟩ = some (.int .u64 0) := by rw [cell_row RB9.out]; rfl
    have e1 : w9.cell? ⟨w.heap.size, 1, none⟩ = some (.int .i64 0) := by rw [cell_row RB9.out]; rfl
    have e2 : w9.cell? ⟨w.heap.size, 2, none⟩ = some (.pointer none) := by rw [cell_row RB9.out]; rfl
    have f0 : w9.frozen? ⟨w.heap.size, 0, none⟩ = false := free_row RB9.out
    have f1 : w9.frozen? ⟨w.heap.size, 1, none⟩ = false := free_row RB9.out
    have f2 : w9.frozen? ⟨w.heap.size, 2, none⟩ = false := free_row RB9.out
    have x0 : w9.cell? ⟨NB, 0, none⟩ = some (.int .u64 (now % 1000000000)) := by rw [cell_row NB9.out]; rfl
    have x1 : w9.cell? ⟨NB, 1, none⟩ = some (.int .i64 (now / 1000000000)) := by rw [cell_row NB9.out]; rfl
    have x2 : w9.cell? ⟨NB, 2, none⟩ = some (.pointer none) := by rw [cell_row NB9.out]; rfl
    go_wp2_with fail
    refine bodyPost_ret (results_cell_row (g := w.heap.size) (t := 60) rfl _ _ _ (0, 0) _ rfl (heap_put _ _ (heap_put _ _ (heap_put _ _ RB9.out))) Yba.underlying60 rfl (by kernel_rfl)) rfl ?_
    have far : ∀ b, b < w.heap.size → ∀ v0 v1 v2, (((w9.setCell ⟨w.heap.size, 0, none⟩ v0).setCell ⟨w.heap.size, 1, none⟩ v1).setCell ⟨w.heap.size, 2, none⟩ v2).heap[b]? = w9.heap[b]? := fun b hb v0 v1 v2 => by
      rw [heap_far _ _ (by omega), heap_far _ _ (by omega), heap_far _ _ (by omega)]
    refine ⟨rfl, (((HSPW9.out.mono (fun b h => .inl h)).setNew (Nat.le_refl _) _).setNew (Nat.le_refl _) _).setNew (Nat.le_refl _) _, ⟨(far T hTl _ _ _).trans TR9.out, (far C hCl _ _ _).trans CT9.out, (far NW hNl _ _ _).trans NW9.out⟩, m, ?_⟩
    exact MP9.out.kept (far Ml hMl _ _ _)
  · obtain ⟨w10, hrun, bel10, hrg⟩ := Rg.start MP9.out ST9.out Yba.underlying71
    have t4 : w9.cell? ⟨T, 4, none⟩ = some (.map (some Ml)) := by rw [cell_row TR9.out]; rfl
    have hsz9 := HSPW9.out.size
    generalize hit : w9.heap.size = it at *
    have nb9l : NB < it := by rw [← hit]; exact (Array.getElem?_eq_some_iff.1 NB9.out).1
    have hRG := hid hrg
    have blk : ∀ {b : Nat} {o : Obj}, w9.heap[b]? = some o → w10.heap[b]? = some o := fun h => (bel10.block _ (by rw [← hit]; exact (Array.getElem?_eq_some_iff.1 h).1)).trans h
    have RB10 := hid (blk RB9.out)
    have TR10 := hid (blk TR9.out)
    have CT10 := hid (blk CT9.out)
    have NW10 := hid (blk NW9.out)
    have NB10 := hid (blk NB9.out)
    have LS10 : Hid (Ls n pt U w10) := fun i hi => blk (LS9.out i hi)
    have LT10 : Hid (∀ i, i < n → pt i < it) := fun i hi => by rw [← hit]; exact (Array.getElem?_eq_some_iff.1 (LS9.out i hi)).1
    have HSPW10 : Hid (Sp (fun b => b = C) w w10) := HSPW9.out.trans (Sp.of (by rw [hit]; exact bel10))
    clear blk RB9 TR9 CT9 NW9 NB9 LS9 MP9 ST9 HSPW9 bel10 hrg
    go_wp2_with fail
    go_loopw [] (fun wr => ∃ L f m', Rg Yba.prog 9 wr Ml it m' f L ∧ (∀ x, L x → f x = fOf PK pt n (fun _ => true) x) ∧ (∀ x, ¬ L x → f x = fOf PK pt n (fun i => decide (now < U i)) x) ∧ Sp (fun b => b = Ml ∨ b = it) w10 wr) (fun wr => leftN wr it)
    case atStart =>
      refine ⟨_, _, _, hRG.out, fun _ _ => rfl, fun x hx => ?_, Sp.refl⟩
      cases hf : fOf PK pt n (fun _ => true) x with
      | some v => exact absurd (by rw [hf]; rfl) hx
      | none =>
        cases hf2 : fOf PK pt n (fun i => decide (now < U i)) x with
        | none => rfl
        | some v =>
          obtain ⟨y, i, rfl, h1, h2, _, _⟩ := fOf_some hf2
          rw [fOf_at h1] at hf
          cases hf
    case round =>
      obtain ⟨L, f, m', hrg, hf0, hf1, hsp⟩ := hrel
      clear hrun t4 hRG
      have hblk : ∀ {b : Nat} {o : Obj}, w10.heap[b]? = some o → b ≠ Ml → b ≠ it → wr.heap[b]? = some o := fun h h1 h2 => (hsp.block _ (Array.getElem?_eq_some_iff.1 h).1 (fun h' => h'.elim h1 h2)).trans h
      have nbr := hblk NB10.out (by omega) (by omega)
      have trr := hblk TR10.out (by omega) (by omega)
      rcases hrg.next 0 with ⟨hnone, hrun⟩ | ⟨s, v, w11, hLs, hfs, hrun, hent, hbut, hrg2, hlf⟩
      · -- the sweep is done
        have hend : ∀ x, f x = fOf PK pt n (fun i => decide (now < U i)) x := fun x => hf1 x (hnone x)
        have mpr : Mp Yba.prog 9 wr Ml m' (fOf PK pt n fun i => decide (now < U i)) := hrg.1.congr hend
        have rbr := hblk RB10.out (by omega) (by omega)
        have ctr := hblk CT10.out (by omega) (by omega)
        have nwr := hblk NW10.out (by omega) (by omega)
        have hszr := hsp.size
        have hit10 := (Array.getElem?_eq_some_iff.1 NB10.out).1
        have x0 : wr.cell? ⟨NB, 0, none⟩ = some (.int .u64 (now % 1000000000)) := by rw [cell_row nbr]; rfl
        have x1 : wr.cell? ⟨NB, 1, none⟩ = some (.int .i64 (now / 1000000000)) := by rw [cell_row nbr]; rfl
        have x2 : wr.cell? ⟨NB, 2, none⟩ = some (.pointer none) := by rw [cell_row nbr]; rfl
        have HAD : Hid (Calls Yba.prog 14 #[.agg #[.int .u64 (now % 1000000000), .int .i64 (now / 1000000000), .pointer none], .int .i64 30000000000] wr fun e w' => e = .returned (.agg (tv (now + 30000000000))) ∧ Below wr.heap.size wr w') := add_any now 30000000000 wr (by omega) (by decide)
        have HSPR : Hid (Sp (fun b => b = C ∨ b = T ∨ b = Ml) w wr) := by
          refine ⟨hsp.os.trans HSPW10.out.os, hsp.tape.trans HSPW10.out.tape, hsp.output.trans HSPW10.out.output, Nat.le_trans HSPW10.out.size hsp.size, fun b hl hb => ?_⟩
          exact (hsp.block b (Nat.lt_of_lt_of_le hl HSPW10.out.size) (by rintro (h | h); exact hb (.inr (.inr h)); omega)).trans (HSPW10.out.block b hl (fun h => hb (.inl h)))
        have RBR := hid rbr
        have TRR := hid trr
        have CTR := hid ctr
        have NWR := hid nwr
        have NBR := hid nbr
        have MPR := hid mpr
        clear rbr trr ctr nwr nbr mpr hblk hsp hf0 hf1 hrg hend hnone
        go_wp2_with fail
        refine HAD.out.mono ?_
        rintro e w12 ⟨rfl, hb12⟩
        have blk : ∀ {b : Nat} {o : Obj}, wr.heap[b]? = some o → w12.heap[b]? = some o := fun h => (hb12.block _ (Array.getElem?_eq_some_iff.1 h).1).trans h
        have rb12 := blk RBR.out
        have tr12 := blk TRR.out
        have nb12 := blk NBR.out
        have ct12 := blk CTR.out
        have nw12 := blk NWR.out
        have mp12 := MPR.out.below hb12
        have sp12 : Sp (fun b => b = C ∨ b = T ∨ b = Ml) w w12 := HSPR.out.trans (Sp.of hb12)
        have g0 : w12.cell? ⟨T, 5, none⟩ = some (.int .u64 (sw % 1000000000)) := by rw [cell_row tr12]; rfl
        have g1 : w12.cell? ⟨T, 6, none⟩ = some (.int .i64 (sw / 1000000000)) := by rw [cell_row tr12]; rfl
        have g2 : w12.cell? ⟨T, 7, none⟩ = some (.pointer none) := by rw [cell_row tr12]; rfl
        have z0 : w12.frozen? ⟨T, 5, none⟩ = false := free_row tr12
        have z1 : w12.frozen? ⟨T, 6, none⟩ = false := free_row tr12
        have z2 : w12.frozen? ⟨T, 7, none⟩ = false := free_row tr12
        generalize hsw : now + 30000000000 = sw2 at *
        generalize hW13 : ((w12.setCell ⟨T, 5, none⟩ (.int .u64 (sw2 % 1000000000))).setCell ⟨T, 6, none⟩ (.int .i64 (sw2 / 1000000000))).setCell ⟨T, 7, none⟩ (.pointer none) = w13
        have tr13 : w13.heap[T]? = some (.cells (trow C NW Mc Ml st sw2) 73 (0, 0)) := by rw [← hW13]; exact heap_put _ _ (heap_put _ _ (heap_put _ _ tr12))
        have far13 : ∀ b, b ≠ T → w13.heap[b]? = w12.heap[b]? := fun b hb => by rw [← hW13, heap_far _ _ hb, heap_far _ _ hb, heap_far _ _ hb]
        have rb13 := (far13 w.heap.size (by omega)).trans rb12
        have nb13 := (far13 NB (by omega)).trans nb12
        have ct13 := (far13 C (by omega)).trans ct12
        have nw13 := (far13 NW (by omega)).trans nw12
        have mp13 := mp12.kept (far13 Ml (by omega))
        have sp13 : Sp (fun b => b = C ∨ b = T ∨ b = Ml) w w13 := by rw [← hW13]; exact ((sp12.setCell (.inr (.inl rfl)) _).setCell (.inr (.inl rfl)) _).setCell (.inr (.inl rfl)) _
        have h0 : w13.cell? ⟨NB, 0, none⟩ = some (.int .u64 (now % 1000000000)) := by rw [cell_row nb13]; rfl
        have h1 : w13.cell? ⟨NB, 1, none⟩ = some (.int .i64 (now / 1000000000)) := by rw [cell_row nb13]; rfl
        have h2 : w13.cell? ⟨NB, 2, none⟩ = some (.pointer none) := by rw [cell_row nb13]; rfl
        have e0 : w13.cell? ⟨w.heap.size, 0, none⟩ = some (.int .u64 0) := by rw [cell_row rb13]; rfl
        have e1 : w13.cell? ⟨w.heap.size, 1, none⟩ = some (.int .i64 0) := by rw [cell_row rb13]; rfl
        have e2 : w13.cell? ⟨w.heap.size, 2, none⟩ = some (.pointer none) := by rw [cell_row rb13]; rfl
        have f0 : w13.frozen? ⟨w.heap.size, 0, none⟩ = false := free_row rb13
        have f1 : w13.frozen? ⟨w.heap.size, 1, none⟩ = false := free_row rb13
        have f2 : w13.frozen? ⟨w.heap.size, 2, none⟩ = false := free_row rb13
        have RB13 := hid rb13
        have TR13 := hid tr13
        have CT13 := hid ct13
        have NW13 := hid nw13
        have MP13 := hid mp13
        have SP13 := hid sp13
        clear rb13 tr13 ct13 nw13 mp13 sp13 far13 rb12 tr12 nb12 ct12 nw12 mp12 sp12 blk hb12 nb13
        go_wp2_with fail
        refine bodyPost_ret (results_cell_row (g := w.heap.size) (t := 60) rfl _ _ _ (0, 0) _ rfl (heap_put _ _ (heap_put _ _ (heap_put _ _ RB13.out))) Yba.underlying60 rfl (by kernel_rfl)) rfl ?_
        have far : ∀ b, b < w.heap.size → ∀ v0 v1 v2, (((w13.setCell ⟨w.heap.size, 0, none⟩ v0).setCell ⟨w.heap.size, 1, none⟩ v1).setCell ⟨w.heap.size, 2, none⟩ v2).heap[b]? = w13.heap[b]? := fun b hb v0 v1 v2 => by
          rw [heap_far _ _ (by omega), heap_far _ _ (by omega), heap_far _ _ (by omega)]
        exact ⟨rfl, ((SP13.out.setNew (Nat.le_refl _) _).setNew (Nat.le_refl _) _).setNew (Nat.le_refl _) _, ⟨(far T hTl _ _ _).trans TR13.out, (far C hCl _ _ _).trans CT13.out, (far NW hNl _ _ _).trans NW13.out⟩, m', MP13.out.kept (far Ml hMl _ _ _)⟩
      · -- one lease comes out
        have hf0s := hf0 s hLs
        rw [hfs] at hf0s
        obtain ⟨x, i, rfl, hla, hin, _, rfl⟩ := fOf_some hf0s.symm
        have hkx := lastTo_key PK x n i hla
        have hxz : x.size ≤ Go.maxLen := by rw [← hkx]; exact HZ.out i hin
        have hpi := LS10.out i hin
        have hpt1 := LT10.out i hin
        have hpt2 := HO5.out i hin
        have pr11 : w11.heap[pt i]? = some (.cells (lease (U i)) 78 (0, 0)) := (hbut.block _ (by omega)).trans (hblk hpi (by omega) (by omega))
        have nb11 := (hbut.block NB (by omega)).trans nbr
        have tr11 := (hbut.block T (by omega)).trans trr
        have x0 : w11.cell? ⟨NB, 0, none⟩ = some (.int .u64 (now % 1000000000)) := by rw [cell_row nb11]; rfl
        have x1 : w11.cell? ⟨NB, 1, none⟩ = some (.int .i64 (now / 1000000000)) := by rw [cell_row nb11]; rfl
        have x2 : w11.cell? ⟨NB, 2, none⟩ = some (.pointer none) := by rw [cell_row nb11]; rfl
        have HLS : Hid (Calls Yba.prog 41 #[.pointer (some ⟨pt i, 0, none⟩), .agg #[.int .u64 (now % 1000000000), .int .i64 (now / 1000000000), .pointer none]] w11 fun e w' => e = .returned (.bool (decide (now < U i))) ∧ Below w11.heap.size w11 w') := lasts_any (pt i) (U i) now w11 pr11
        have sp11 : Sp (fun b => b = Ml ∨ b = it) w10 w11 := hsp.but (.inr rfl) hbut
        have HSP11 := hid sp11
        have HRG2 := hid hrg2
        have HPR := hid pr11
        have HTR := hid tr11
        have HFS := hid hfs
        have HF0 := hid hf0
        have HF1 := hid hf1
        have HLA := hid hla
        have HLF := hid hlf
        clear sp11 hrg2 pr11 tr11 nb11 hfs hf0 hf1 hla hlf hf0s hbut hblk nbr trr hrg hsp hpi hLs
        go_wp2_with fail
        refine HLS.out.mono ?_
        rintro e w12 ⟨rfl, hb12⟩
        have hl11 := HRG2.out.lt
        have r12 : Rg Yba.prog 9 w12 Ml it m' f (fun y => L y ∧ y ≠ .string x) := HRG2.out.kept (hb12.block _ hl11.1) (hb12.block _ hl11.2)
        have hln : leftN w12 it < leftN wr it := by rw [leftN_kept HRG2.out (hb12.block _ hl11.2) (hb12.block _ hl11.1)]; exact HLF.out
        have sp12 : Sp (fun b => b = Ml ∨ b = it) w10 w12 := HSP11.out.trans (Sp.of hb12)
        have tr12 := (hb12.block T (Array.getElem?_eq_some_iff.1 HTR.out).1).trans HTR.out
        have pr12 := (hb12.block (pt i) (Array.getElem?_eq_some_iff.1 HPR.out).1).trans HPR.out
        by_cases hkeep : now < U i
        · have HR : Hid (∃ L f m', Rg Yba.prog 9 w12 Ml it m' f L ∧ (∀ x, L x → f x = fOf PK pt n (fun _ => true) x) ∧ (∀ x, ¬ L x → f x = fOf PK pt n (fun i => decide (now < U i)) x) ∧ Sp (fun b => b = Ml ∨ b = it) w10 w12) := by
            refine ⟨_, f, m', r12, fun y hy => HF0.out y hy.1, fun y hy => ?_, sp12⟩
            by_cases hyx : y = .string x
            · subst hyx
              rw [HFS.out, fOf_at HLA.out]
              simp [hkeep]
            · exact HF1.out y (fun h => hy ⟨h, hyx⟩)
          have HLN := hid hln
          clear r12 sp12 tr12 pr12 hb12 hln
          go_wp2_with fail
          go_roundw
          case rel => exact HR.out
          case measure => exact HLN.out
        · have hdk : decide (now < U i) = false := decide_eq_false hkeep
          have HDR := hid (drop_any T x (pt i) (U i) Ml it m' f _ w12 (by rw [cell_row tr12]; rfl) (by omega) hxz HFS.out (fun h => h.2 rfl) r12 pr12)
          have HLN := hid hln
          have HSP12 := hid sp12
          clear r12 sp12 tr12 pr12 hb12 hln
          go_wp2_with fail
          refine HDR.out.mono ?_
          rintro e w13 ⟨rfl, hbut13, m2, hrg13, hle13⟩
          have HR : Hid (∃ L f m', Rg Yba.prog 9 w13 Ml it m' f L ∧ (∀ x, L x → f x = fOf PK pt n (fun _ => true) x) ∧ (∀ x, ¬ L x → f x = fOf PK pt n (fun i => decide (now < U i)) x) ∧ Sp (fun b => b = Ml ∨ b = it) w10 w13) := by
            refine ⟨_, _, m2, hrg13, fun y hy => ?_, fun y hy => ?_, HSP12.out.but (.inl rfl) hbut13⟩
            · rw [dropAt_other _ hy.2]
              exact HF0.out y hy.1
            · by_cases hyx : y = .string x
              · subst hyx
                rw [dropAt_same, fOf_at HLA.out]
                simp [hkeep]
              · rw [dropAt_other _ hyx]
                exact HF1.out y (fun h => hy ⟨h, hyx⟩)
          have HLN2 : Hid (leftN w13 it < leftN wr it) := Nat.lt_of_le_of_lt hle13 HLN.out
          clear hbut13 hrg13 hle13
          go_wp2_with fail
          go_roundw
          case rel => exact HR.out
          case measure => exact HLN2.out

end Go.Proofs.Ybulketto.B
