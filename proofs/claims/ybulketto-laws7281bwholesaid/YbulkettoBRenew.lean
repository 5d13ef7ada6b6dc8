/-
  LawS7281BWhole: the contracts of extend (29) and renew (13).
-/
import Derived.Test.YbulkettoBSweep
import Derived.Conc.MuLone
import Derived.Defers
namespace Go.Proofs.Ybulketto.B
open Go.RowKit Go.Maps Go.MuLone Classical
open Go.Proofs.Ybulketto.C (hid cell_later cell_row free_row heap_put heap_far lock_at keyed key_str toList_iff toList_ne lastTo lastTo_lt)
attribute [local go_sem ↓] Go.wp_at_zero Go.wp_at_succ

/-- Whether the peer's lease lasts at now. -/
def wantOf (PK : Nat → ByteArray) (U : Nat → Int) (n : Nat) (peer : ByteArray) (now : Int) : Bool :=
  match lastTo PK peer n with
  | some i => decide (now < U i)
  | none => false
/-- The ends behind the renewal. -/
def ends (PK : Nat → ByteArray) (U : Nat → Int) (n : Nat) (peer : ByteArray) (now : Int) : Nat → Int := fun j => if lastTo PK peer n = some j ∧ now < U j then now + 30000000000 else U j

theorem pt_inj {C NW Mc Ml T n : Nat} {pt : Nat → Nat} (ho : Ord C NW Mc Ml T n pt) {i j : Nat} (hi : i < n) (hj : j < n) (h : pt i = pt j) : i = j := by
  obtain ⟨_, _, _, _, _, o6⟩ := ho
  rcases Nat.lt_trichotomy i j with h1 | h1 | h1
  · have := o6 i j h1 hj; omega
  · exact h1
  · have := o6 j i h1 hi; omega

set_option maxHeartbeats 1000000 in
set_option maxRecDepth 100000 in
theorem extend_any (T C NW Mc Ml n m : Nat) (st now sw c : Int) (PK : Nat → ByteArray) (pt : Nat → Nat) (U : Nat → Int) (K : Nat → Bool) (peer : ByteArray) (w : World) (ho : Ord C NW Mc Ml T n pt) (ht : Tk T C NW Mc Ml st c now sw w)
    (hm : Mp Yba.prog 9 w Ml m (fOf PK pt n K)) (hl : Ls n pt U w) (hK : ∀ i, now < U i → K i = true) (hz : peer.size ≤ Go.maxLen) (hn0 : -9223372036854775808 ≤ now) (hn1 : now ≤ 9223372036854775807) :
    Calls Yba.prog 29 #[.pointer (some ⟨T, 0, none⟩), .string peer, .agg (tv now)] w fun e w' => ∃ p, e = .returned (.pointer p) ∧ p.isSome = wantOf PK U n peer now ∧ Sp (fun b => ∃ i, i < n ∧ b = pt i) w w' ∧ Ls n pt (ends PK U n peer now) w' := by
  have hTl := (Array.getElem?_eq_some_iff.1 ht.row).1
  generalize hW1 : w.alloc (.cells (tv now) 60) = w1
  have bel1 : Below w.heap.size w w1 := by rw [← hW1]; exact (Below.refl _ _).alloc (Nat.le_refl _) _
  have nb1 : w1.heap[w.heap.size]? = some (.cells (tv now) 60 (0, 0)) := by rw [← hW1]; exact heap_alloc_new w _
  have tr1 := (bel1.block T hTl).trans ht.row
  have mp1 := hm.below bel1
  have ls1 : Ls n pt U w1 := fun i hi => (bel1.block _ (Array.getElem?_eq_some_iff.1 (hl i hi)).1).trans (hl i hi)
  have t4 : w1.cell? ⟨T, 4, none⟩ = some (.map (some Ml)) := by rw [cell_row tr1]; rfl
  have x0 : w1.cell? ⟨w.heap.size, 0, none⟩ = some (.int .u64 (now % 1000000000)) := by rw [cell_row nb1]; rfl
  have x1 : w1.cell? ⟨w.heap.size, 1, none⟩ = some (.int .i64 (now / 1000000000)) := by rw [cell_row nb1]; rfl
  have x2 : w1.cell? ⟨w.heap.size, 2, none⟩ = some (.pointer none) := by rw [cell_row nb1]; rfl
  have hlk := mp1.look keyed Yba.underlying71 (zero75 w1) (key_str hz) false
  simp only [Bool.false_eq_true, if_false] at hlk
  -- nothing is found
  have miss : fOf PK pt n K (.string peer) = none → wantOf PK U n peer now = false → (∀ j, j < n → ends PK U n peer now j = U j) →
      Calls Yba.prog 29 #[.pointer (some ⟨T, 0, none⟩), .string peer, .agg (tv now)] w fun e w' => ∃ p, e = .returned (.pointer p) ∧ p.isSome = wantOf PK U n peer now ∧ Sp (fun b => ∃ i, i < n ∧ b = pt i) w w' ∧ Ls n pt (ends PK U n peer now) w' := by
    intro hf hw he
    rw [hf] at hlk
    simp only [Option.getD_none] at hlk
    have HR : Hid (Sp (fun b => ∃ i, i < n ∧ b = pt i) w w1 ∧ Ls n pt (ends PK U n peer now) w1) := ⟨Sp.of bel1, fun i hi => by rw [he i hi]; exact ls1 i hi⟩
    have HW := hid hw
    clear hw he hf bel1 nb1 tr1 mp1 ls1 ht hm hl
    go_enter Yba.func29, Yba.ntmps29
    go_wp2_with fail
    go_ret
    exact ⟨none, rfl, by rw [HW.out]; rfl, HR.out⟩
  cases hla : lastTo PK peer n with
  | none =>
    refine miss (by simp [fOf, hla]) (by simp [wantOf, hla]) (fun j _ => by simp [ends, hla])
  | some i =>
    have hin := lastTo_lt PK peer n i hla
    cases hKi : K i with
    | false =>
      have hnl : ¬ now < U i := fun h => by rw [hK i h] at hKi; cases hKi
      refine miss (by rw [fOf_at hla, hKi]; rfl) (by simp [wantOf, hla]; omega) (fun j _ => ?_)
      unfold ends
      rw [if_neg]
      rintro ⟨h1, h2⟩
      rw [hla] at h1
      obtain rfl : i = j := by simpa using h1
      exact hnl h2
    | true =>
      clear miss
      rw [fOf_at hla, hKi] at hlk
      simp only [if_true, Option.getD_some] at hlk
      have pr1 := ls1 i hin
      have hpl := (Array.getElem?_eq_some_iff.1 (hl i hin)).1
      have HLS : Hid (Calls Yba.prog 41 #[.pointer (some ⟨pt i, 0, none⟩), .agg #[.int .u64 (now % 1000000000), .int .i64 (now / 1000000000), .pointer none]] w1 fun e w' => e = .returned (.bool (decide (now < U i))) ∧ Below w1.heap.size w1 w') := lasts_any (pt i) (U i) now w1 pr1
      have HB1 := hid bel1
      have HL1 := hid ls1
      have HNB := hid nb1
      have HLA := hid hla
      have HO := hid ho
      clear bel1 nb1 tr1 mp1 ls1 ht hm hl pr1 ho
      by_cases hk : now < U i
      · have hdk : decide (now < U i) = true := decide_eq_true hk
        go_enter Yba.func29, Yba.ntmps29
        go_wp2_with fail
        refine HLS.out.mono ?_
        rintro e w2 ⟨rfl, hb2⟩
        have nb2 := (hb2.block _ (Array.getElem?_eq_some_iff.1 HNB.out).1).trans HNB.out
        have a0 : w2.cell? ⟨w.heap.size, 0, none⟩ = some (.int .u64 (now % 1000000000)) := by rw [cell_row nb2]; rfl
        have a1 : w2.cell? ⟨w.heap.size, 1, none⟩ = some (.int .i64 (now / 1000000000)) := by rw [cell_row nb2]; rfl
        have a2 : w2.cell? ⟨w.heap.size, 2, none⟩ = some (.pointer none) := by rw [cell_row nb2]; rfl
        have HAD : Hid (Calls Yba.prog 14 #[.agg #[.int .u64 (now % 1000000000), .int .i64 (now / 1000000000), .pointer none], .int .i64 30000000000] w2 fun e w' => e = .returned (.agg (tv (now + 30000000000))) ∧ Below w2.heap.size w2 w') := add_any now 30000000000 w2 (by omega) (by decide)
        have HB2 := hid (HB1.out.trans (hb2.mono HB1.out.size))
        have HL2 : Hid (Ls n pt U w2) := fun j hj => (hb2.block _ (Array.getElem?_eq_some_iff.1 (HL1.out j hj)).1).trans (HL1.out j hj)
        clear hb2 nb2 HLS
        go_wp2_with fail
        refine HAD.out.mono ?_
        rintro e w3 ⟨rfl, hb3⟩
        have ls3 : Ls n pt U w3 := fun j hj => (hb3.block _ (Array.getElem?_eq_some_iff.1 (HL2.out j hj)).1).trans (HL2.out j hj)
        have pr3 := ls3 i hin
        have e0 : w3.cell? ⟨pt i, 0, none⟩ = some (.int .u64 (U i % 1000000000)) := by rw [cell_row pr3]; rfl
        have e1 : w3.cell? ⟨pt i, 1, none⟩ = some (.int .i64 (U i / 1000000000)) := by rw [cell_row pr3]; rfl
        have e2 : w3.cell? ⟨pt i, 2, none⟩ = some (.pointer none) := by rw [cell_row pr3]; rfl
        have f0 : w3.frozen? ⟨pt i, 0, none⟩ = false := free_row pr3
        have f1 : w3.frozen? ⟨pt i, 1, none⟩ = false := free_row pr3
        have f2 : w3.frozen? ⟨pt i, 2, none⟩ = false := free_row pr3
        have HB3 := hid (HB2.out.trans (hb3.mono HB2.out.size))
        have HL3 := hid ls3
        generalize hsw : now + 30000000000 = sw2 at *
        clear hb3 ls3 pr3 HAD
        go_wp2_with fail
        go_ret
        refine ⟨_, rfl, by simp [wantOf, HLA.out, hk], ((Sp.setCell (S := fun b => ∃ i, i < n ∧ b = pt i) (Sp.of HB3.out) ⟨i, hin, rfl⟩ _).setCell (S := fun b => ∃ i, i < n ∧ b = pt i) ⟨i, hin, rfl⟩ _).setCell (S := fun b => ∃ i, i < n ∧ b = pt i) ⟨i, hin, rfl⟩ _, ?_⟩
        intro j hj
        by_cases hji : j = i
        · subst hji
          have : ends PK U n peer now j = sw2 := by unfold ends; rw [if_pos ⟨HLA.out, hk⟩]; exact hsw
          rw [this]
          exact heap_put _ _ (heap_put _ _ (heap_put _ _ (HL3.out j hj)))
        · have : ends PK U n peer now j = U j := by
            unfold ends
            rw [if_neg]
            rintro ⟨h1, _⟩
            rw [HLA.out] at h1
            simp at h1
            omega
          rw [this]
          have hne : pt j ≠ pt i := fun h => hji (pt_inj HO.out hj hin h)
          rw [heap_far _ _ hne, heap_far _ _ hne, heap_far _ _ hne]
          exact HL3.out j hj
      · have hdk : decide (now < U i) = false := decide_eq_false hk
        go_enter Yba.func29, Yba.ntmps29
        go_wp2_with fail
        refine HLS.out.mono ?_
        rintro e w2 ⟨rfl, hb2⟩
        have HB2 := hid (HB1.out.trans (hb2.mono HB1.out.size))
        have HL2 : Hid (Ls n pt U w2) := fun j hj => (hb2.block _ (Array.getElem?_eq_some_iff.1 (HL1.out j hj)).1).trans (HL1.out j hj)
        clear hb2 HLS
        go_wp2_with fail
        go_ret
        refine ⟨none, rfl, by simp [wantOf, HLA.out, hdk], Sp.of HB2.out, fun j hj => ?_⟩
        have : ends PK U n peer now j = U j := by
          unfold ends
          rw [if_neg]
          rintro ⟨h1, h2⟩
          rw [HLA.out] at h1
          obtain rfl : i = j := by simpa using h1
          omega
        rw [this]
        exact HL2.out j hj

/-- The world behind renew. -/
def Renewed (T C NW Mc Ml n : Nat) (now sw : Int) (PK : Nat → ByteArray) (pt : Nat → Nat) (U : Nat → Int) (peer : ByteArray) (w w' : World) : Prop :=
  Sp (fun b => b = C ∨ b = T ∨ b = Ml ∨ ∃ i, i < n ∧ b = pt i) w w' ∧ Tk T C NW Mc Ml 0 1 now (if now < sw then sw else now + 30000000000) w' ∧ (∃ m', Mp Yba.prog 9 w' Ml m' (fOf PK pt n fun i => decide (now < sw) || decide (now < U i))) ∧ Ls n pt (ends PK U n peer now) w'

set_option maxHeartbeats 1000000 in
set_option maxRecDepth 100000 in
theorem renew_any (T C NW Mc Ml n m : Nat) (now sw : Int) (PK : Nat → ByteArray) (pt : Nat → Nat) (U : Nat → Int) (peer : ByteArray) (w : World) (ho : Ord C NW Mc Ml T n pt) (ht : Tk T C NW Mc Ml 0 0 now sw w) (hm : Mp Yba.prog 9 w Ml m (fOf PK pt n fun _ => true)) (hs : St w Ml)
    (hl : Ls n pt U w) (hz : ∀ i, i < n → (PK i).size ≤ Go.maxLen) (hpz : peer.size ≤ Go.maxLen) (hn0 : -9223372036854775808 ≤ now) (hn1 : now ≤ 9223372036854775807) :
    Calls Yba.prog 13 #[.pointer (some ⟨T, 0, none⟩), .string peer] w fun e w' => e = .returned (.bool (wantOf PK U n peer now)) ∧ Renewed T C NW Mc Ml n now sw PK pt U peer w w' := by
  have ho' := ho
  obtain ⟨o1, o2, o3, o4, o5, o6⟩ := ho'
  generalize hW1 : w.setCell ⟨T, 1, none⟩ (.int .i32 1) = w1
  have far1 : ∀ b, b ≠ T → w1.heap[b]? = w.heap[b]? := fun b hb => by rw [← hW1]; exact heap_far w _ hb
  have tk1 : Tk T C NW Mc Ml 1 0 now sw w1 := ⟨by rw [← hW1]; exact heap_put w _ ht.row, (far1 C (by omega)).trans ht.cnt, (far1 NW (by omega)).trans ht.nw⟩
  have mp1 := hm.kept (far1 Ml (by omega))
  have st1 := hs.kept (far1 Ml (by omega))
  have ls1 : Ls n pt U w1 := fun i hi => (far1 _ (by have := o5 i hi; omega)).trans (hl i hi)
  have sp1 : Sp (fun b => b = C ∨ b = T ∨ b = Ml ∨ ∃ i, i < n ∧ b = pt i) w w1 := by rw [← hW1]; exact Sp.refl.setCell (S := fun b => b = C ∨ b = T ∨ b = Ml ∨ ∃ i, i < n ∧ b = pt i) (.inr (.inl rfl)) _
  have HLK : Hid (Calls Yba.prog 28 #[.pointer (some ⟨T, 1, none⟩)] w fun e w' => e = .returned (.tuple #[]) ∧ w' = w1) := by
    have := lock_at ⟨T, 1, none⟩ w (by rw [cell_row ht.row]; rfl) (free_row ht.row)
    rw [hW1] at this
    exact this
  have HSW := hid (sweep_any T C NW Mc Ml n m 1 now sw PK pt U w1 ho tk1 mp1 st1 ls1 hz hn0 hn1)
  have HLS := hid ls1
  have HSP1 := hid sp1
  have HO := hid ho
  clear far1 tk1 mp1 st1 ls1 sp1 ht hm hs hl hz hW1 o5 o6 ho
  go_enter_defers Yba.func13, Yba.ntmps13
  go_wp2_with fail
  refine HLK.out.mono ?_
  rintro e w9 ⟨rfl, rfl⟩
  go_wp2_with fail
  refine HSW.out.mono ?_
  rintro e w2 ⟨rfl, sp2, tk2, m2, mp2⟩
  have ls2 : Ls n pt U w2 := fun i hi => (sp2.block _ (Array.getElem?_eq_some_iff.1 (HLS.out i hi)).1 (by have := HO.out.2.2.2.2.1 i hi; omega)).trans (HLS.out i hi)
  have HEX := hid (extend_any T C NW Mc Ml n m2 1 now _ 1 PK pt U _ peer w2 HO.out tk2 mp2 ls2 (fun i h => by simp [h]) hpz hn0 hn1)
  have HTK2 := hid tk2
  have HMP2 := hid mp2
  have HSP2 : Hid (Sp (fun b => b = C ∨ b = T ∨ b = Ml ∨ ∃ i, i < n ∧ b = pt i) w w2) := HSP1.out.trans (sp2.mono (fun b h => by rcases h with h | h | h; exact .inl h; exact .inr (.inl h); exact .inr (.inr (.inl h))))
  clear sp2 tk2 mp2 ls2 HSW HLK
  go_wp2_with fail
  refine HEX.out.mono ?_
  rintro e w3 ⟨p, rfl, hp, sp3, ls3⟩
  have bl3 : ∀ {b : Nat} {o : Obj}, w2.heap[b]? = some o → b ≤ T → w3.heap[b]? = some o := fun h hb => (sp3.block _ (Array.getElem?_eq_some_iff.1 h).1 (by rintro ⟨i, hi, rfl⟩; have := HO.out.2.2.2.2.1 i hi; omega)).trans h
  have tr3 := bl3 HTK2.out.row (Nat.le_refl _)
  have ct3 := bl3 HTK2.out.cnt (by omega)
  have nw3 := bl3 HTK2.out.nw (by omega)
  have mp3 := HMP2.out.kept (sp3.block Ml HMP2.out.lt (by rintro ⟨i, hi, h⟩; have := HO.out.2.2.2.2.1 i hi; omega))
  have c1 : w3.cell? ⟨T, 1, none⟩ = some (.int .i32 1) := by rw [cell_row tr3]; rfl
  have z1 : w3.frozen? ⟨T, 1, none⟩ = false := free_row tr3
  have HFIN : Hid (Renewed T C NW Mc Ml n now sw PK pt U peer w (w3.setCell ⟨T, 1, none⟩ (.int .i32 0))) := by
    refine ⟨?_, ⟨heap_put w3 _ tr3, (heap_far w3 _ (by omega)).trans ct3, (heap_far w3 _ (by omega)).trans nw3⟩, ⟨m2, mp3.kept (heap_far w3 _ (by omega))⟩, fun i hi => (heap_far w3 _ (by have := HO.out.2.2.2.2.1 i hi; omega)).trans (ls3 i hi)⟩
    exact (HSP2.out.trans (sp3.mono (fun b h => .inr (.inr (.inr h))))).setCell (S := fun b => b = C ∨ b = T ∨ b = Ml ∨ ∃ i, i < n ∧ b = pt i) (.inr (.inl rfl)) _
  have HUN := hid (unlock_deferred Yba.muLib ⟨T, 1, none⟩ .returning w3 c1 z1)
  have HP := hid hp
  clear bl3 tr3 ct3 nw3 mp3 c1 z1 hp sp3 ls3 HEX HTK2 HMP2
  cases p with
  | none =>
    go_wp2_with fail
    refine leaves_cons (f := 20) (args := #[.pointer (some ⟨T, 1, none⟩)]) (by simp) (by simp [go_sem]) ?_
    refine HUN.out.mono ?_
    rintro e u' w'' ⟨rfl, rfl, rfl⟩
    exact ⟨_, results_tmp rfl _ _ _, by rw [← HP.out]; rfl, HFIN.out⟩
  | some a =>
    go_wp2_with fail
    refine leaves_cons (f := 20) (args := #[.pointer (some ⟨T, 1, none⟩)]) (by simp) (by simp [go_sem]) ?_
    refine HUN.out.mono ?_
    rintro e u' w'' ⟨rfl, rfl, rfl⟩
    exact ⟨_, results_tmp rfl _ _ _, by rw [← HP.out]; rfl, HFIN.out⟩

end Go.Proofs.Ybulketto.B
