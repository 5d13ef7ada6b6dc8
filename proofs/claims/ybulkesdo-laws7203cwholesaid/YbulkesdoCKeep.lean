/-
  LawS7203CWhole: mustKeep (10) and the function that it hands back (14).
-/
import Derived.Test.YbulkesdoCElem
namespace Go.Proofs.Ybulkesdo.C
open Go.RowKit Go.Maps Go.WideMaps Classical
attribute [local go_sem ↓] Go.wp_at_zero Go.wp_at_succ

theorem zero4 (w : World) : (zeroValue 4).run Yba.prog w = .ok (.bool false) w := by kernel_rfl
theorem make70 (w : World) : (Instr.makeMap 70 none).run Yba.prog w = .ok (.map (some w.heap.size)) (w.alloc (.map #[] 0)) := by kernel_rfl

/-- Which ids are own: those of the first N that show. -/
def ownOf [D : (p : Prop) → Decidable p] (N : Nat) (c : Nat → Int) (A : Nat → ByteArray) (S : Nat → Bool) (G : Value → Prop) : Value → Option Value :=
  fun x => if (∃ i, i < N ∧ x = idV (c i) (A i) ∧ S i = true) ∧ G x then some (.bool true) else none

theorem ownOf_congr {N : Nat} {c : Nat → Int} {A : Nat → ByteArray} {S : Nat → Bool} {G G' : Value → Prop} {x : Value} (h : (∃ i, i < N ∧ x = idV (c i) (A i) ∧ S i = true) → (G x ↔ G' x)) : ownOf N c A S G x = ownOf N c A S G' x := by
  unfold ownOf
  by_cases hp : (∃ i, i < N ∧ x = idV (c i) (A i) ∧ S i = true) ∧ G x
  · rw [if_pos hp, if_pos ⟨hp.1, (h hp.1).1 hp.2⟩]
  · rw [if_neg hp, if_neg (fun q => hp ⟨q.1, (h q.1).2 q.2⟩)]

/-- The list once N elements are laid. -/
structure Lst (LB I Mo Mv N n : Nat) (f fm : Value → Option Value) (c : Nat → Int) (A : Nat → ByteArray) (S : Nat → Bool) (nd p lo hi : Nat → Nat) (w : World) : Prop where
  mo : w.cell? ⟨LB, 8, none⟩ = some (.map (some Mo))
  mp : Mp Yba.prog 60 w Mo N fm
  st : St w Mo
  fm : ∀ x, (fm x).isSome = true ↔ ∃ i, i < N ∧ x = idV (c i) (A i)
  el : ∀ i, i < N → Elem LB I Mv n f (c i) (A i) (nd i) (p i) w
  pl : ∀ i, i < N → Placed (S i) (p i) (lo i) (hi i) w ∧ hi i ≤ w.heap.size
  inj : ∀ i j, i < N → j < N → c i = c j → i = j

set_option maxHeartbeats 400000 in
set_option maxRecDepth 100000 in
theorem own_any (OW W no : Nat) (fo : Value → Option Value) (c : Int) (a : ByteArray) (w : World) (h0 : 0 ≤ c) (h1 : c < 18446744073709551616) (ha : a.size ≤ Go.maxLen) (hO : w.cell? ⟨OW, 0, none⟩ = some (.map (some W))) (hm : Mp Yba.prog 60 w W no fo) (b : Bool) (hb : (fo (idV c a)).getD (.bool false) = .bool b) :
    Calls Yba.prog 14 #[idV c a, .pointer (some ⟨OW, 0, none⟩)] w fun e w' => e = .returned (.bool b) ∧ Below w.heap.size w w' := by
  obtain ⟨q1, q2, q3⟩ := one_new w (.cells #[.int .u64 c, .string a] 60)
  obtain ⟨l, hk⟩ := key_id h0 h1 ha
  have hlk : (Instr.lookup 70 (.map (some W)) (.agg #[.int .u64 c, .string a]) false).run Yba.prog (w.alloc (.cells #[.int .u64 c, .string a] 60)) = .ok (.bool b) (w.alloc (.cells #[.int .u64 c, .string a] 60)) := by
    have := (hm.below q2).look keyed Yba.underlying70 (zero4 _) hk false
    simp only [Bool.false_eq_true, if_false] at this
    rw [this, hb]
  have o1 := cell_later q2 hO
  have HQ2 := hid q2
  clear q1 q2 q3 hm hk hb hO
  go_enter Yba.func14, Yba.ntmps14
  go_wp2_with fail
  go_ret
  exact ⟨rfl, HQ2.out⟩

/-- What mustKeep leaves. -/
def Kept (N : Nat) (c : Nat → Int) (A : Nat → ByteArray) (S : Nat → Bool) (w : World) (e : Ending) (w' : World) : Prop :=
  ∃ OW W no fo, e = .returned (.func (.func 14) #[] #[.pointer (some ⟨OW, 0, none⟩)]) ∧ Below w.heap.size w w' ∧ w'.cell? ⟨OW, 0, none⟩ = some (.map (some W)) ∧ Mp Yba.prog 60 w' W no fo ∧ (∀ x, fo x = ownOf N c A S (fun _ => True) x)

set_option maxHeartbeats 2000000 in
set_option maxRecDepth 100000 in
theorem keep_any (LB I Mo Mv N n : Nat) (f fm : Value → Option Value) (c : Nat → Int) (A : Nat → ByteArray) (S : Nat → Bool) (nd p lo hi : Nat → Nat) (w : World) (hN : 0 < N) (hN2 : N ≤ 65536) (h : Lst LB I Mo Mv N n f fm c A S nd p lo hi w) :
    Calls Yba.prog 10 #[.pointer (some ⟨LB, 0, none⟩), .agg #[.bool false, .map none]] w fun e w' => Kept N c A S w e w' := by
  obtain ⟨q1, q2, q3⟩ := one_new w (.cells #[.bool false, .map none] 72)
  have hlen := (h.mp.below q2).length Yba.underlying41
  have m1 := cell_later q2 h.mo
  have k1 : (w.alloc (.cells #[.bool false, .map none] 72)).cell? ⟨w.heap.size, 0, none⟩ = some (.bool false) := by rw [cell_row q1]; rfl
  have hNz : ((N : Int) == 0) = false := by simp; omega
  have hmk := make70
  have HH := hid h
  have HQ2 := hid q2
  clear h q1 q2 q3
  go_enter Yba.func10, Yba.ntmps10
  go_upto_region 4 with fail
  obtain ⟨r1, r2, r3, r4, r5⟩ := three_new w (.cells #[.bool false, .map none] 72) (.map #[] 0) (.cells #[.map (some (w.heap.size + 1))] 70)
  generalize hW2 : ((w.alloc (.cells #[.bool false, .map none] 72)).alloc (.map #[] 0)).alloc (.cells #[.map (some (w.heap.size + 1))] 70) = w2 at *
  have mo2 := HH.out.mp.below r4
  have st2 := HH.out.st.kept (r4.block Mo HH.out.mp.lt)
  have c8 := cell_later r4 HH.out.mo
  have own2 : Mp Yba.prog 60 w2 (w.heap.size + 1) 0 (fun _ => none) := ⟨#[], 0, r2, rfl, by simp, by simp, fun s v h => by cases h⟩
  have hMl := HH.out.mp.lt
  obtain ⟨w3, hrun, bel3, hrg⟩ := Rg.start mo2 st2 Yba.underlying41
  have ow3 : w3.heap[w.heap.size + 1 + 1]? = some (.cells #[.map (some (w.heap.size + 1))] 70 (0, 0)) := (bel3.block _ (by omega)).trans r3
  have own3 := own2.below bel3
  have hb03 : Below w.heap.size w w3 := r4.trans (bel3.mono r4.size)
  generalize hit : w2.heap.size = it at *
  subst r5
  have HRG := hid hrg
  have HOW := hid ow3
  have HOWN := hid own3
  have HB03 := hid hb03
  clear hrg ow3 own3 own2 mo2 st2 bel3 hb03 hlen m1 k1 hmk r1 r2 r3 r4 HQ2 hW2
  go_wp2_with fail
  go_loopw [] (fun wr => ∃ L no, Rg Yba.prog 60 wr Mo (w.heap.size + 1 + 1 + 1) N fm L ∧ Mp Yba.prog 60 wr (w.heap.size + 1) no (ownOf N c A S (fun x => ¬ L x)) ∧ wr.heap[w.heap.size + 1 + 1]? = some (.cells #[.map (some (w.heap.size + 1))] 70 (0, 0)) ∧ Below w.heap.size w wr) (fun wr => leftN wr (w.heap.size + 1 + 1 + 1))
  case atStart =>
    refine ⟨_, 0, HRG.out, HOWN.out.congr fun x => ?_, HOW.out, HB03.out⟩
    unfold ownOf
    rw [if_neg]
    rintro ⟨⟨i, hi, hx, _⟩, hn⟩
    exact hn ((HH.out.fm x).2 ⟨i, hi, hx⟩)
  case round =>
    obtain ⟨L, no, hrg, hown, how, hb⟩ := hrel
    clear hrun c8 HRG HOW HOWN HB03
    rcases hrg.next 0 with ⟨hnone, hrun⟩ | ⟨s, v, w4, hLs, hfs, hrun, hent, hbut, hrg2, hlf⟩
    · have HK : Hid (Below w.heap.size w wr ∧ wr.cell? ⟨w.heap.size + 1 + 1, 0, none⟩ = some (.map (some (w.heap.size + 1))) ∧ Mp Yba.prog 60 wr (w.heap.size + 1) no (ownOf N c A S (fun x => ¬ L x))) := ⟨hb, by rw [cell_row how]; rfl, hown⟩
      have HNN := hid hnone
      have hmf : ∀ (fn : Fn) (first cap : Array Value) (w : World), (Instr.makeFunc fn first cap).run Yba.prog w = .ok (.func fn first cap) w := fun _ _ _ _ => rfl
      clear hrg hown how hb hnone
      go_wp2_with fail
      go_ret
      refine ⟨_, _, no, _, rfl, HK.out.1, HK.out.2.1, HK.out.2.2, fun x => ?_⟩
      exact ownOf_congr fun _ => ⟨fun _ => trivial, fun _ => HNN.out x⟩
    · obtain ⟨i, hi, rfl⟩ := (HH.out.fm s).1 (by rw [hfs]; rfl)
      have hitl := hrg.lt
      have hb4 : Below w.heap.size w w4 := hbut.below hb (by omega)
      have ow4 := (hbut.block (w.heap.size + 1 + 1) (by omega)).trans how
      have own4 := hown.kept (hbut.block (w.heap.size + 1) (by omega))
      have HE4 := hid (HH.out.el i hi)
      have HR4 := hid hrg2
      have HB4 := hid hb4
      have HOW4 := hid ow4
      have HOWN4 := hid own4
      have HLF := hid hlf
      clear hrg hown how hb hbut hrg2 hb4 ow4 own4 hlf hLs hfs
      go_upto_region 7 with fail
      generalize hX : w4.heap.size = X
      generalize hW5 : w4.alloc (.cells #[.int .u64 (c i), .string (A i)] 60) = w5
      have bel5 : Below w4.heap.size w4 w5 := by rw [← hW5]; exact (Below.refl _ _).alloc (Nat.le_refl _) _
      have xr : w5.heap[X]? = some (.cells #[.int .u64 (c i), .string (A i)] 60 (0, 0)) := by rw [← hW5, ← hX]; exact heap_alloc_new w4 _
      have hb05 : Below w.heap.size w w5 := HB4.out.trans (bel5.mono HB4.out.size)
      have x0 : w5.cell? ⟨X, 0, none⟩ = some (.int .u64 (c i)) := by rw [cell_row xr]; rfl
      have x1 : w5.cell? ⟨X, 1, none⟩ = some (.string (A i)) := by rw [cell_row xr]; rfl
      have HLP : Hid (Calls Yba.prog 12 #[.pointer (some ⟨LB, 0, none⟩), .agg #[.int .u64 (c i), .string (A i)]] w5 fun e w' => e = .returned (.pointer (some ⟨p i, 0, none⟩)) ∧ Below w5.heap.size w5 w') := listplace_any LB I Mv n f (c i) (A i) (nd i) (p i) w5 (HE4.out.below hb05)
      have HB5 := hid bel5
      have HB05 := hid hb05
      have HXR := hid xr
      clear bel5 hb05 xr hW5
      go_wp2_with fail
      refine HLP.out.mono ?_
      rintro e w6 ⟨rfl, hb6⟩
      have hb06 : Below w.heap.size w w6 := HB05.out.trans (hb6.mono HB05.out.size)
      have hb46 : Below w4.heap.size w4 w6 := HB5.out.trans (hb6.mono HB5.out.size)
      obtain ⟨hpl, hpi⟩ := HH.out.pl i hi
      have HPR := hid (hpl w6 (fun b _ hbh => hb06.block b (by omega)))
      have hl4 := HR4.out.lt
      have R6 : Rg Yba.prog 60 w6 Mo (w.heap.size + 1 + 1 + 1) N fm (fun x => L x ∧ x ≠ idV (c i) (A i)) := HR4.out.kept (hb46.block _ hl4.1) (hb46.block _ hl4.2)
      have hln : leftN w6 (w.heap.size + 1 + 1 + 1) < leftN wr (w.heap.size + 1 + 1 + 1) := by rw [leftN_kept HR4.out (hb46.block _ hl4.2) (hb46.block _ hl4.1)]; exact HLF.out
      have own6 := HOWN4.out.below hb46
      have ow6 := (hb46.block _ (Array.getElem?_eq_some_iff.1 HOW4.out).1).trans HOW4.out
      have xr6 := (hb6.block X (Array.getElem?_eq_some_iff.1 HXR.out).1).trans HXR.out
      have c6 : w6.cell? ⟨w.heap.size + 1 + 1, 0, none⟩ = some (.map (some (w.heap.size + 1))) := by rw [cell_row ow6]; rfl
      have y0 : w6.cell? ⟨X, 0, none⟩ = some (.int .u64 (c i)) := by rw [cell_row xr6]; rfl
      have y1 : w6.cell? ⟨X, 1, none⟩ = some (.string (A i)) := by rw [cell_row xr6]; rfl
      have hel := HE4.out
      obtain ⟨lk, hk⟩ := key_id hel.lo hel.hi hel.sz
      have HR6 := hid R6
      have HLN := hid hln
      have HOWN6 := hid own6
      have HOW6 := hid ow6
      have HB06 := hid hb06
      clear R6 hln ow6 hb06 hb46 hb6 xr6 x0 x1 HLP hpl hpi
      cases hS : S i
      · have HR : Hid (∃ L no, Rg Yba.prog 60 w6 Mo (w.heap.size + 1 + 1 + 1) N fm L ∧ Mp Yba.prog 60 w6 (w.heap.size + 1) no (ownOf N c A S (fun x => ¬ L x)) ∧ w6.heap[w.heap.size + 1 + 1]? = some (.cells #[.map (some (w.heap.size + 1))] 70 (0, 0)) ∧ Below w.heap.size w w6) := by
          refine ⟨_, no, HR6.out, HOWN6.out.congr fun x => ownOf_congr ?_, HOW6.out, HB06.out⟩
          rintro ⟨j, hj, hx, hSj⟩
          have hne : x ≠ idV (c i) (A i) := by
            intro he
            rw [hx] at he
            have hcc : c j = c i := by simp at he; exact he.1
            have := HH.out.inj j i hj hi hcc
            subst this
            rw [hS] at hSj
            cases hSj
          exact ⟨fun h1 h2 => h1 h2.1, fun h1 h2 => h1 ⟨h2, hne⟩⟩
        rw [hS] at HPR
        clear own6 hk hel
        go_wp2_with fail
        refine HPR.out.mono ?_
        rintro e w7 ⟨rfl, rfl⟩
        go_wp2_with fail
        go_roundw
        case rel => exact HR.out
        case measure => exact HLN.out
      · obtain ⟨w7, hup, hbut7, hmp7⟩ := own6.put keyed Yba.underlying70 hk (.bool true)
        have HR : Hid ((∃ L no, Rg Yba.prog 60 w7 Mo (w.heap.size + 1 + 1 + 1) N fm L ∧ Mp Yba.prog 60 w7 (w.heap.size + 1) no (ownOf N c A S (fun x => ¬ L x)) ∧ w7.heap[w.heap.size + 1 + 1]? = some (.cells #[.map (some (w.heap.size + 1))] 70 (0, 0)) ∧ Below w.heap.size w w7) ∧ leftN w7 (w.heap.size + 1 + 1 + 1) < leftN wr (w.heap.size + 1 + 1 + 1)) := by
          have k1 := hbut7.block Mo (by omega)
          have k2 := hbut7.block (w.heap.size + 1 + 1 + 1) (by omega)
          refine ⟨⟨_, _, HR6.out.kept k1 k2, hmp7.congr fun x => ?_, (hbut7.block _ (by omega)).trans HOW6.out, hbut7.below HB06.out (by omega)⟩, by rw [leftN_kept HR6.out k2 k1]; exact HLN.out⟩
          by_cases hx : x = idV (c i) (A i)
          · subst hx
            rw [putAt_same]
            unfold ownOf
            rw [if_pos ⟨⟨i, hi, rfl, hS⟩, fun h => h.2 rfl⟩]
          · rw [putAt_other _ _ hx]
            exact ownOf_congr fun _ => ⟨fun h1 h2 => h1 h2.1, fun h1 h2 => h1 ⟨h2, hx⟩⟩
        rw [hS] at HPR
        clear own6 hk hel hbut7 hmp7
        go_wp2_with fail
        refine HPR.out.mono ?_
        rintro e w8 ⟨rfl, rfl⟩
        go_wp2_with fail
        go_roundw
        case rel => exact HR.out.1
        case measure => exact HR.out.2

theorem len41_nil (ty : TypeId) (w : World) : (Builtin.len_ #[41] ty #[.map none]).run Yba.prog w = .ok (goInt 0) w := by
  simp [Builtin.len_, run_underlying Yba.underlying41]

set_option maxHeartbeats 400000 in
set_option maxRecDepth 100000 in
theorem keep_none (LB : Nat) (all : Bool) (w : World) (h : w.cell? ⟨LB, 8, none⟩ = some (.map none)) :
    Calls Yba.prog 10 #[.pointer (some ⟨LB, 0, none⟩), .agg #[.bool all, .map none]] w fun e w' => e = .returned .nilFunc ∧ Below w.heap.size w w' := by
  obtain ⟨q1, q2, q3⟩ := one_new w (.cells #[.bool all, .map none] 72)
  have hlen := fun ty => len41_nil ty (w.alloc (.cells #[.bool all, .map none] 72))
  have m1 := cell_later q2 h
  have HQ2 := hid q2
  clear h q1 q2 q3
  go_enter Yba.func10, Yba.ntmps10
  go_wp2_with fail
  go_ret
  exact ⟨rfl, HQ2.out⟩

set_option maxHeartbeats 400000 in
set_option maxRecDepth 100000 in
theorem keep_all (LB Mo N : Nat) (fm : Value → Option Value) (w : World) (hN : 0 < N) (hN2 : N ≤ 65536) (h : w.cell? ⟨LB, 8, none⟩ = some (.map (some Mo))) (hm : Mp Yba.prog 60 w Mo N fm) :
    Calls Yba.prog 10 #[.pointer (some ⟨LB, 0, none⟩), .agg #[.bool true, .map none]] w fun e w' => e = .returned .nilFunc ∧ Below w.heap.size w w' := by
  obtain ⟨q1, q2, q3⟩ := one_new w (.cells #[.bool true, .map none] 72)
  have hlen := (hm.below q2).length Yba.underlying41
  have m1 := cell_later q2 h
  have k1 : (w.alloc (.cells #[.bool true, .map none] 72)).cell? ⟨w.heap.size, 0, none⟩ = some (.bool true) := by rw [cell_row q1]; rfl
  have hNz : ((N : Int) == 0) = false := by simp; omega
  have HQ2 := hid q2
  clear h q1 q2 q3 hm
  go_enter Yba.func10, Yba.ntmps10
  go_wp2_with fail
  go_ret
  exact ⟨rfl, HQ2.out⟩

end Go.Proofs.Ybulkesdo.C
