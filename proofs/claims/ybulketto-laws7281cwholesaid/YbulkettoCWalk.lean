/-
  LawS7281CWhole: the walk.
-/
import Derived.Test.YbulkettoCParts
namespace Go.Proofs.Ybulketto.C
open Go.RowKit Go.Maps Go.MuLone Classical
attribute [local go_sem ↓] Go.wp_at_zero Go.wp_at_succ

/-- The fresh map. -/
structure FM (K : Nat → ByteArray) (n N : Nat) (fm : Option Nat) (a : Option Addr) (w : World) : Prop where
  nil : fm.isNone = a.isNone
  none : fm = none → n = 0
  some : ∀ M, fm = some M → N ≤ M ∧ ∃ f, Full K n f ∧ Mp Yba.prog 9 w M (dist K false ⟨#[]⟩ n) f
/-- The spare map. -/
structure SM (K : Nat → ByteArray) (v : Nat → Bool) (n N : Nat) (f : Value → Option Value) (sm : Option Nat) (a : Option Addr) (w : World) : Prop where
  nil : sm.isNone = a.isNone
  none : sm = none → n = 0
  last : Last K v n f
  some : ∀ M, sm = some M → N ≤ M ∧ Mp Yba.prog 9 w M (dist K false ⟨#[]⟩ n) f

theorem FM.below {K : Nat → ByteArray} {n N : Nat} {fm : Option Nat} {a : Option Addr} {w w' : World} (h : FM K n N fm a w) (hb : Below w.heap.size w w') : FM K n N fm a w' :=
  ⟨h.nil, h.none, fun M hM => by obtain ⟨h1, f, h2, h3⟩ := h.some M hM; exact ⟨h1, f, h2, h3.below hb⟩⟩
theorem FM.off {K : Nat → ByteArray} {n N : Nat} {fm : Option Nat} {a : Option Addr} {S : Nat → Prop} {w w' : World} (h : FM K n N fm a w) (ho : Off S w w') (hS : ∀ M, fm = Option.some M → ¬ S M) : FM K n N fm a w' :=
  ⟨h.nil, h.none, fun M hM => by obtain ⟨h1, f, h2, h3⟩ := h.some M hM; exact ⟨h1, f, h2, h3.kept (ho.block M (hS M hM))⟩⟩

set_option maxHeartbeats 4000000 in
set_option maxRecDepth 100000 in
theorem lawC_walk (id0 : ByteArray) (pick : Int) (clipSame : Bool) (clip0 : ByteArray) (hc left : Bool) (fa : Option Addr) (fb fo fl fc : Nat) (FK : Nat → ByteArray) (sa : Option Addr) (sb so sl sc : Nat) (SK : Nat → ByteArray)
    (va : Option Addr) (vb vo vl vc : Nat) (V : Nat → Bool) (w : World) (hp0 : 0 ≤ pick) (hp1 : pick ≤ 255) (hfl : fl ≤ 4096) (hsl : sl ≤ 4096) (hid0 : id0.size ≤ Go.maxLen)
    (fn0 : fa = none → fl = 0) (sn0 : sa = none → sl = 0) (hfa : 0 < fl → fa = some ⟨fb, fo, none⟩) (hsa : 0 < sl → sa = some ⟨sb, so, none⟩) (hva : 0 < vl → va = some ⟨vb, vo, none⟩)
    (hF : ∀ i, i < fl → w.cell? ⟨fb, fo + i, none⟩ = some (.string (FK i))) (hS : ∀ i, i < sl → w.cell? ⟨sb, so + i, none⟩ = some (.string (SK i))) (hV : ∀ i, i < vl → w.cell? ⟨vb, vo + i, none⟩ = some (.bool (V i)))
    (hFz : ∀ i, i < fl → (FK i).size ≤ Go.maxLen) (hSz : ∀ i, i < sl → (SK i).size ≤ Go.maxLen) :
    Calls Yba.prog 5 #[.string id0, .int .u8 pick, .bool clipSame, .string clip0, .bool hc, .bool left, .slice fa fl fc, .slice sa sl sc, .slice va vl vc] w fun e w' => e = .returned (.bool true) ∧ Below w.heap.size w w' := by
  have hl1 : ¬ ((4096 : Int) < (fl : Int)) := by omega
  have hl2 : ¬ ((4096 : Int) < (sl : Int)) := by omega
  have FN0 := hid fn0
  have SN0 := hid sn0
  have HFA := hid hfa
  have HSA := hid hsa
  have HVA := hid hva
  have HF := hid hF
  have HS := hid hS
  have HV := hid hV
  have HFZ := hid hFz
  have HSZ := hid hSz
  clear fn0 sn0 hfa hsa hva hF hS hV hFz hSz
  go_enter Yba.func5, Yba.ntmps5
  go_upto_region 3 with fail
  go_cut [54] (fun v wx => v = .bool (decide (0 < sl ∧ pick % 2 = 1)) ∧ w = wx)
  case first =>
    as_aux_lemma =>
    by_cases h0 : 0 < sl
    · have h0' : (0 : Int) < (sl : Int) := by omega
      by_cases hodd : pick % 2 = 1
      · go_wp2_with fail
        go_meet
        exact ⟨by simp [h0, hodd], rfl⟩
      · go_wp2_with fail
        go_meet
        exact ⟨by simp [hodd], rfl⟩
    · have h0' : ¬ (0 : Int) < (sl : Int) := by omega
      go_wp2_with fail
      go_meet
      exact ⟨by simp [h0], rfl⟩
  case rest =>
  obtain ⟨rfl, hw⟩ := hcut
  subst hw
  go_upto_if 54 with fail
  go_cut [0] (fun v0 wx => ∃ idv, v0 = .string idv ∧ idv.size ≤ Go.maxLen ∧ w = wx)
  case first =>
    as_aux_lemma =>
    by_cases hcond : 0 < sl ∧ pick % 2 = 1
    · rw [decide_eq_true hcond]
      obtain ⟨h0, hodd⟩ := hcond
      obtain rfl := HSA.out h0
      generalize hj : ((pick / 2) % (sl : Int)).toNat = j
      have hj0 : 0 ≤ (pick / 2) % (sl : Int) := Int.emod_nonneg _ (by omega)
      have hj1 : (pick / 2) % (sl : Int) < (sl : Int) := Int.emod_lt_of_pos _ (by omega)
      have hjl : j < sl := by omega
      have hje : (pick / 2) % (sl : Int) = (j : Int) := by omega
      have c := HS.out j hjl
      have hz := HSZ.out j hjl
      have hsn : ¬ (sl : Int) = 0 := by omega
      have hsn2 : ¬ sl = 0 := by omega
      have hjw : (j : Int) < (sl : Int) := by omega
      have hj0w : (0 : Int) ≤ (j : Int) := by omega
      go_wp2_with fail
      go_meet
      exact ⟨_, rfl, hz, rfl⟩
    · rw [decide_eq_false hcond]
      go_wp2_with fail
      go_meet
      exact ⟨_, rfl, hid0, rfl⟩
  case rest =>
    obtain ⟨idv, rfl, hidv, hw⟩ := hcut
    subst hw
    clear hid0 hp0 hp1
    go_upto_if 64 with fail
    go_cut [3] (fun v3 wx => ∃ cl, v3 = .string cl ∧ w = wx)
    case first =>
      as_aux_lemma =>
      cases clipSame
      · go_wp2_with fail
        go_meet
        exact ⟨_, rfl, rfl⟩
      · go_wp2_with fail
        go_meet
        exact ⟨_, rfl, rfl⟩
    case rest =>
      obtain ⟨cl, rfl, hw⟩ := hcut
      subst hw
      generalize hC : w.heap.size = C
      have hmf : ∀ (fn : Fn) (first cap : Array Value) (w : World), (Instr.makeFunc fn first cap).run Yba.prog w = .ok (.func fn first cap) w := fun _ _ _ _ => rfl
      go_upto_if 66 with fail
      generalize hW1 : w.alloc (.cells #[.int .i64 0] 3) = w1
      go_cut [20] (fun v20 wx => v20 = canc C hc ∧ w1 = wx)
      case first =>
        as_aux_lemma =>
        cases hc
        · go_wp2_with fail
          go_meet
          exact ⟨rfl, rfl⟩
        · go_wp2_with fail
          go_meet
          exact ⟨rfl, rfl⟩
      case rest =>
        obtain ⟨rfl, hw⟩ := hcut
        subst hw
        have hb1 : Below w.heap.size w w1 := by rw [← hW1]; exact (Below.refl _ _).alloc (Nat.le_refl _) _
        have hcc : w1.heap[C]? = some (.cells #[.int .i64 0] 3 (0, 0)) := by rw [← hW1, ← hC]; exact heap_alloc_new w _
        have hCl : C < w1.heap.size := (Array.getElem?_eq_some_iff.1 hcc).1
        have HB1 := hid hb1
        have HCC := hid hcc
        have HCW := hid hC
        clear hW1 hcc hb1 hmf hC
        have hmm := make85
        have q76 : ∀ (w : World) (a : Option Addr) (n c n' c' : Nat), (binOp .neq 76 (.slice a n c) (.slice none n' c')).run Yba.prog w = .ok (.bool (!a.isNone)) w := fun w a n c n' c' => run_neq_slice_nil_any w _ _ a n c n' c' Yba.underlying76
        go_upto_if 69 with fail
        clear q76
        go_cut [21] (fun v wx => ∃ fm, v = .map fm ∧ Below w1.heap.size w1 wx ∧ FM FK fl w1.heap.size fm fa wx)
        case first =>
          as_aux_lemma =>
          cases fa with
          | none =>
            obtain rfl : fl = 0 := FN0.out rfl
            go_wp2_with fail
            go_meet
            exact ⟨none, rfl, Below.refl _ _, rfl, fun _ => rfl, fun M h => by cases h⟩
          | some xx =>
            go_wp2_with fail
            go_loopw [73] (fun i wr => ∃ k : Nat, k ≤ fl ∧ i = .int .i64 k ∧ Below w1.heap.size w1 wr ∧ ∃ f, Full FK k f ∧ Mp Yba.prog 9 wr w1.heap.size (dist FK false ⟨#[]⟩ k) f) (fun i _ => fl - (intOf i).toNat)
            case atStart => exact ⟨0, Nat.zero_le _, rfl, (Below.refl _ _).alloc (Nat.le_refl _) _, fun _ => none, fun x => rfl, Mp.new w1⟩
            case round =>
              obtain ⟨k, hk, rfl, hb2, f, hfu, hmp⟩ := hrel
              clear hmm
              by_cases hkl : k < fl
              · have hkl' : (k : Int) < (fl : Int) := by omega
                have hk0 : (0 : Int) ≤ (k : Int) := by omega
                obtain rfl : xx = ⟨fb, fo, none⟩ := by simpa using HFA.out (by omega)
                have s0 := cell_later (HB1.out.trans (hb2.mono HB1.out.size)) (HF.out k hkl)
                obtain ⟨w2, hup, hbut, hmp2⟩ := hmp.put keyed Yba.underlying85 (key_str (HFZ.out k hkl)) (.bool true)
                rw [hfu.some, dist_put] at hmp2
                have HR : Hid (Below w1.heap.size w1 w2 ∧ ∃ f, Full FK (k + 1) f ∧ Mp Yba.prog 9 w2 w1.heap.size (dist FK false ⟨#[]⟩ (k + 1)) f) := ⟨hbut.below hb2 (Nat.le_refl _), _, hfu.step, hmp2⟩
                clear hmp2 hbut hmp hfu hb2
                go_wp2_with fail
                go_roundw
                case rel => exact ⟨k + 1, by omega, by go_num, HR.out⟩
                case measure => simp [intOf]; omega
              · have hnn : ¬ (k : Int) < (fl : Int) := by omega
                obtain rfl : k = fl := by omega
                have HR : Hid (Below w1.heap.size w1 wr ∧ ∃ f, Full FK k f ∧ Mp Yba.prog 9 wr w1.heap.size (dist FK false ⟨#[]⟩ k) f) := ⟨hb2, f, hfu, hmp⟩
                clear hmp hfu hb2
                go_wp2_with fail
                go_meet
                refine ⟨some w1.heap.size, rfl, HR.out.1, rfl, (fun h => by cases h), fun M h => ?_⟩
                obtain rfl : w1.heap.size = M := by simpa using h
                exact ⟨by omega, HR.out.2⟩
        case rest =>
          obtain ⟨fm, rfl, hb2, hfm⟩ := hcut
          generalize hW2 : wc = w2 at *
          clear hW2
          have HB2 : Hid (Below w.heap.size w w2) := HB1.out.trans (hb2.mono HB1.out.size)
          have HCC2 : Hid (w2.heap[C]? = some (.cells #[.int .i64 0] 3 (0, 0))) := (hb2.block C hCl).trans HCC.out
          have hCl2 : C < w2.heap.size := Nat.lt_of_lt_of_le hCl hb2.size
          have hN12 : w1.heap.size ≤ w2.heap.size := hb2.size
          have HFM := hid hfm
          clear hb2 hfm HB1 HCC
          have q76 : ∀ (w : World) (a : Option Addr) (n c n' c' : Nat), (binOp .neq 76 (.slice a n c) (.slice none n' c')).run Yba.prog w = .ok (.bool (!a.isNone)) w := fun w a n c n' c' => run_neq_slice_nil_any w _ _ a n c n' c' Yba.underlying76
          go_upto_if 81 with fail
          clear q76
          go_cut [24] (fun v wx => ∃ sm f, v = .map sm ∧ Below w2.heap.size w2 wx ∧ SM SK (vAt vl V) sl w2.heap.size f sm sa wx)
          case first =>
            as_aux_lemma =>
            cases sa with
            | none =>
              obtain rfl : sl = 0 := SN0.out rfl
              go_wp2_with fail
              go_meet
              exact ⟨none, fun _ => none, rfl, Below.refl _ _, rfl, fun _ => rfl, fun x => rfl, fun M h => by cases h⟩
            | some xx =>
              go_wp2_with fail
              go_loopw [85] (fun i wr => ∃ k : Nat, k ≤ sl ∧ i = .int .i64 k ∧ Below w2.heap.size w2 wr ∧ ∃ f, Last SK (vAt vl V) k f ∧ Mp Yba.prog 9 wr w2.heap.size (dist SK false ⟨#[]⟩ k) f) (fun i _ => sl - (intOf i).toNat)
              case atStart => exact ⟨0, Nat.zero_le _, rfl, (Below.refl _ _).alloc (Nat.le_refl _) _, fun _ => none, fun x => rfl, Mp.new w2⟩
              case round =>
                obtain ⟨k, hk, rfl, hb3, f, hfu, hmp⟩ := hrel
                clear hmm
                by_cases hkl : k < sl
                · have hkl' : (k : Int) < (sl : Int) := by omega
                  have hk0 : (0 : Int) ≤ (k : Int) := by omega
                  obtain rfl : xx = ⟨sb, so, none⟩ := by simpa using HSA.out (by omega)
                  have hb03 : Below w.heap.size w wr := HB2.out.trans (hb3.mono HB2.out.size)
                  have s0 := cell_later hb03 (HS.out k hkl)
                  have HVL := hid (val_any va vb vo vl vc V k wr HVA.out (fun j hj => cell_later hb03 (HV.out j hj)))
                  obtain ⟨w3, hup, hbut, hmp2⟩ := hmp.put keyed Yba.underlying85 (key_str (HSZ.out k hkl)) (.bool (vAt vl V k))
                  rw [hfu.some, dist_put] at hmp2
                  have HR : Hid (Below w2.heap.size w2 w3 ∧ ∃ f, Last SK (vAt vl V) (k + 1) f ∧ Mp Yba.prog 9 w3 w2.heap.size (dist SK false ⟨#[]⟩ (k + 1)) f) := ⟨hbut.below hb3 (Nat.le_refl _), _, hfu.step, hmp2⟩
                  clear hmp2 hbut hmp hfu hb3 hb03
                  go_wp2_with fail
                  refine HVL.out.mono ?_
                  rintro e w9 ⟨rfl, rfl⟩
                  go_wp2_with fail
                  go_roundw
                  case rel => exact ⟨k + 1, by omega, by go_num, HR.out⟩
                  case measure => simp [intOf]; omega
                · have hnn : ¬ (k : Int) < (sl : Int) := by omega
                  obtain rfl : k = sl := by omega
                  have HR : Hid (Below w2.heap.size w2 wr ∧ Last SK (vAt vl V) k f ∧ Mp Yba.prog 9 wr w2.heap.size (dist SK false ⟨#[]⟩ k) f) := ⟨hb3, hfu, hmp⟩
                  clear hmp hfu hb3
                  go_wp2_with fail
                  go_meet
                  refine ⟨some w2.heap.size, f, rfl, HR.out.1, rfl, (fun h => by cases h), HR.out.2.1, fun M h => ?_⟩
                  obtain rfl : w2.heap.size = M := by simpa using h
                  exact ⟨by omega, HR.out.2.2⟩
          case rest =>
            obtain ⟨sm, f, rfl, hb3, hsm⟩ := hcut
            generalize hW3 : wc = w3 at *
            clear hW3
            have HB3 : Hid (Below w.heap.size w w3) := HB2.out.trans (hb3.mono HB2.out.size)
            have HCC3 : Hid (w3.heap[C]? = some (.cells #[.int .i64 0] 3 (0, 0))) := (hb3.block C hCl2).trans HCC2.out
            have HFM3 := hid (HFM.out.below hb3)
            have HSM := hid hsm
            have hN23 := hb3.size
            have hCl3 : C < w3.heap.size := Nat.lt_of_lt_of_le hCl2 hb3.size
            have HFL : Hid (∀ M, fm = some M → w1.heap.size ≤ M ∧ M < w2.heap.size) := fun M hM => by
              obtain ⟨h1, f', _, h2⟩ := HFM.out.some M hM
              exact ⟨h1, h2.lt⟩
            clear hb3 hsm HB2 HCC2 HFM hmm
            have hw23 : w2.heap.size ≤ w3.heap.size := hN23
            go_upto_region 27 with fail
            go_cut [27] (fun v wx => v = .pointer (some ⟨w3.heap.size, 0, none⟩) ∧ w3.alloc (.cells (pfRow 0 cl (canc C hc) left (.map fm) (.map sm)) 89) = wx)
            case first =>
              as_aux_lemma =>
              cases hc
              · simp only [canc]
                go_wp2_with fail
                go_meet
                exact ⟨rfl, rfl⟩
              · simp only [canc]
                go_wp2_with fail
                go_meet
                exact ⟨rfl, rfl⟩
            case rest =>
            obtain ⟨rfl, hw⟩ := hcut
            subst hw
            generalize hB : w3.heap.size = B at *
            generalize hW4 : w3.alloc (.cells (pfRow 0 cl (canc C hc) left (.map fm) (.map sm)) 89) = w4
            have bel4 : Below w3.heap.size w3 w4 := by rw [← hW4]; exact (Below.refl _ _).alloc (Nat.le_refl _) _
            have pf4 : w4.heap[B]? = some (.cells (pfRow 0 cl (canc C hc) left (.map fm) (.map sm)) 89 (0, 0)) := by rw [← hW4, ← hB]; exact heap_alloc_new w3 _
            have hCB : C ≠ B := by omega
            have hMB : ∀ M, sm = some M → M ≠ B ∧ M ≠ C ∧ Mp Yba.prog 9 w4 M (dist SK false ⟨#[]⟩ sl) f := fun M hM => by
              obtain ⟨h1, h2⟩ := HSM.out.some M hM
              have := h2.lt
              exact ⟨by omega, by omega, h2.below bel4⟩
            have hFB : ∀ M, fm = some M → ¬ (M = B ∨ M = C ∨ sm = some M) := fun M hM => by
              obtain ⟨h1, h2⟩ := HFL.out M hM
              rintro (h | h | h)
              · omega
              · omega
              · have := (HSM.out.some M h).1
                omega
            have HPL := hid (playing_any B C hCB cl idv hc left (.map fm) sm _ f w4 pf4 ((bel4.block C (by rw [hB]; exact hCl3)).trans HCC3.out) hMB hidv)
            have HFM4 := hid (HFM3.out.below bel4)
            have HMB := hid (fun M hM => (hMB M hM).1 : ∀ M, sm = some M → M ≠ B)
            have HFB := hid hFB
            have HB4 : Hid (Below w.heap.size w w4) := HB3.out.trans (bel4.mono HB3.out.size)
            have hNB : w.heap.size ≤ B := by rw [← hB]; exact HB3.out.size
            have hNC : w.heap.size ≤ C := by rw [HCW.out]; exact Nat.le_refl _
            clear bel4 pf4 hMB hFB HB3 HFM3 HCC3
            go_wp2_with fail
            refine HPL.out.mono ?_
            rintro e w5 ⟨rfl, haf⟩
            clear HPL
            have HTL := hid (try_free ⟨B, 0, none⟩ w5 (by rw [cell_row haf.pf]; rfl) (free_row haf.pf))
            have pf6 : (w5.setCell ⟨B, 0, none⟩ (.int .i32 1)).heap[B]? = _ := heap_put w5 (.int .i32 1) haf.pf
            have HUL := hid (unlock_at ⟨B, 0, none⟩ _ (by rw [cell_row pf6]; rfl) (free_row pf6))
            have haf7 := haf.relock hCB HMB.out
            have HAF := hid haf7
            have b4 := cell_row (j := 4) haf7.pf
            simp at b4
            clear haf pf6 haf7
            go_wp2_with fail
            refine HTL.out.mono ?_
            rintro e w6 ⟨rfl, rfl⟩
            clear HTL
            go_wp2_with fail
            refine HUL.out.mono ?_
            rintro e w7 ⟨rfl, hw7⟩
            rw [← hw7] at HAF b4
            clear HUL hw7
            go_upto_if 123 with fail
            go_cut [18] (fun v wx => v = .bool false ∧ (∃ cl2 cv, wx.heap[B]? = some (.cells (pfRow 0 cl2 cv left (.map fm) (.map sm)) 89 (0, 0))) ∧ Off (fun b => b = C) w7 wx)
            case first =>
              as_aux_lemma =>
              have pf := HAF.out.pf
              have ct := HAF.out.cnt
              cases hsame : (cl.toList == idv.toList)
              · rw [hsame] at pf ct
                simp only [Bool.false_eq_true, if_false] at pf ct
                have c2 : w7.cell? ⟨B, 2, none⟩ = some (.string ⟨#[]⟩) := by rw [cell_row pf]; rfl
                have c3 : w7.cell? ⟨B, 3, none⟩ = some .nilFunc := by rw [cell_row pf]; rfl
                have hn := neq84n
                cases hc
                · have c0 : w7.cell? ⟨C, 0, none⟩ = some (.int .i64 0) := by rw [cell_row ct]; rfl
                  have HPF := hid pf
                  clear pf ct
                  go_wp2_with fail
                  go_meet
                  exact ⟨rfl, ⟨_, _, HPF.out⟩, Off.refl⟩
                · have c0 : w7.cell? ⟨C, 0, none⟩ = some (.int .i64 1) := by rw [cell_row ct]; rfl
                  have HPF := hid pf
                  clear pf ct
                  go_wp2_with fail
                  go_meet
                  exact ⟨rfl, ⟨_, _, HPF.out⟩, Off.refl⟩
              · rw [hsame] at pf ct
                simp only [if_true] at pf ct
                have c2 : w7.cell? ⟨B, 2, none⟩ = some (.string cl) := by rw [cell_row pf]; rfl
                have c0 : w7.cell? ⟨C, 0, none⟩ = some (.int .i64 0) := by rw [cell_row ct]; rfl
                have t0 : (cl.toList == cl.toList) = true := by simp
                cases hc
                · have c3 : w7.cell? ⟨B, 3, none⟩ = some .nilFunc := by rw [cell_row pf]; rfl
                  have hn := neq84n
                  have HPF := hid pf
                  clear pf ct
                  go_wp2_with fail
                  go_meet
                  exact ⟨rfl, ⟨_, _, HPF.out⟩, Off.refl⟩
                · have c3 : w7.cell? ⟨B, 3, none⟩ = some (.func (.func 16) #[] #[.pointer (some ⟨C, 0, none⟩)]) := by rw [cell_row pf]; rfl
                  have hn := neq84
                  have HCT := hid (count_any C 0 w7 (by decide) (by decide) c0 (free_row ct))
                  have d0 : (w7.setCell ⟨C, 0, none⟩ (.int .i64 (0 + 1))).cell? ⟨C, 0, none⟩ = some (.int .i64 1) := by rw [cell_row (heap_put w7 _ ct)]; rfl
                  have HPF : Hid ((w7.setCell ⟨C, 0, none⟩ (.int .i64 (0 + 1))).heap[B]? = some (.cells (pfRow 0 cl (canc C true) left (.map fm) (.map sm)) 89 (0, 0))) := (heap_far w7 _ (Ne.symm hCB)).trans pf
                  have HOF : Hid (Off (fun b => b = C) w7 (w7.setCell ⟨C, 0, none⟩ (.int .i64 (0 + 1)))) := (Off.refl (S := fun b => b = C) (w := w7)).setCell (S := fun b => b = C) rfl _
                  clear pf ct
                  go_wp2_with fail
                  refine HCT.out.mono ?_
                  rintro e w8 ⟨rfl, hw8⟩
                  rw [← hw8] at HPF HOF d0
                  clear HCT hw8 c0 c2 c3
                  go_wp2_with fail
                  go_meet
                  exact ⟨rfl, ⟨_, _, HPF.out⟩, HOF.out⟩
            case rest =>
              obtain ⟨rfl, ⟨cl2, cv, pf8⟩, off8⟩ := hcut
              generalize hW8 : wc = w8 at *
              clear hW8
              have hb7 : Below w.heap.size w w7 := by
                refine HAF.out.off.below HB4.out ?_
                rintro b (h | h | h)
                · omega
                · omega
                · have := (HSM.out.some b h).1
                  omega
              have hb8 : Below w.heap.size w w8 := off8.below hb7 (by rintro b rfl; exact hNC)
              have HB8 := hid hb8
              clear hb7 hb8
              have HFM8 := hid ((HFM4.out.off HAF.out.off HFB.out).off off8 (fun M hM h => HFB.out M hM (.inr (.inl h))))
              have HSM8 : Hid (∀ M, sm = some M → Mp Yba.prog 9 w8 M (if (f (.string idv)).isSome then dist SK false ⟨#[]⟩ sl - 1 else dist SK false ⟨#[]⟩ sl) (dropAt f (.string idv))) := fun M hM => (HAF.out.map M hM).kept (off8.block M (by have := (HSM.out.some M hM).1; omega))
              have HPF8 := hid pf8
              clear off8 pf8 HAF HFM4 HB4 b4
              -- the fresh map
              have c5 : w8.cell? ⟨B, 5, none⟩ = some (.map fm) := by rw [cell_row HPF8.out]; rfl
              have m85 : ∀ w : World, (binOp .eql 85 (.map fm) (.map none)).run Yba.prog w = .ok (.bool fm.isNone) w := fun w => run_eql_map_nil w _ _ _ fm Yba.underlying85
              have q76 : ∀ (w : World) (n' c' : Nat), (binOp .eql 76 (.slice fa fl fc) (.slice none n' c')).run Yba.prog w = .ok (.bool fa.isNone) w := fun w n' c' => Lib.run_eql_slice_nil w _ _ fa fl fc n' c' Yba.underlying76
              rw [HFM8.out.nil] at m85
              have hln : ∀ ty, (Builtin.len_ #[85] ty #[.map fm]).run Yba.prog w8 = .ok (goInt (dist FK false ⟨#[]⟩ fl)) w8 := fun ty => by
                cases hfm : fm with
                | none => rw [HFM8.out.none hfm]; exact len_nil ty w8
                | some M =>
                  obtain ⟨_, f', _, h2⟩ := HFM8.out.some M hfm
                  exact h2.length Yba.underlying85 ty
              have HDS := hid (distinct_any fa fb fo fl fc FK false ⟨#[]⟩ hfl HFA.out w8 (fun i hi => cell_later HB8.out (HF.out i hi)))
              generalize hdF : dist FK false ⟨#[]⟩ fl = dF at *
              generalize hfn : fa.isNone = fnn at *
              have hx1 : (fnn != fnn) = false := by simp
              go_wp2_with fail
              refine HDS.out.mono ?_
              rintro e w9 ⟨rfl, hb9⟩
              have HB9 := hid hb9
              clear hb9 hln HDS m85 q76 hfn hx1 c5 hdF
              go_wp2_with fail
              go_loopw [191] (fun i wr => ∃ k : Nat, k ≤ fl ∧ i = .int .i64 k ∧ Below w8.heap.size w8 wr) (fun i _ => fl - (intOf i).toNat)
              case atStart => exact ⟨0, Nat.zero_le _, rfl, HB9.out⟩
              case round =>
                obtain ⟨k, hk, rfl, hb10⟩ := hrel
                clear HB9
                by_cases hkl : k < fl
                · as_aux_lemma =>
                  have hkl' : (k : Int) < (fl : Int) := by omega
                  have hk0 : (0 : Int) ≤ (k : Int) := by omega
                  obtain rfl := HFA.out (by omega)
                  have s0 := cell_later (HB8.out.trans (hb10.mono HB8.out.size)) (HF.out k hkl)
                  have c5 : wr.cell? ⟨B, 5, none⟩ = some (.map fm) := cell_later hb10 (by rw [cell_row HPF8.out]; rfl)
                  cases fm with
                  | none => exact absurd (HFM8.out.none rfl) (by omega)
                  | some M =>
                    obtain ⟨_, f', hfu, h2⟩ := HFM8.out.some M rfl
                    have hlk := (h2.below hb10).look keyed Yba.underlying85 (zero4 wr) (key_str (HFZ.out k hkl)) true
                    rw [hfu (FK k), seen_own FK hkl] at hlk
                    simp only [if_true, Option.getD_some, Option.isSome_some] at hlk
                    have HB10 := hid hb10
                    clear hb10 h2 hfu
                    go_wp2_with fail
                    go_roundw
                    case rel => exact ⟨k + 1, by omega, by go_num, HB10.out⟩
                    case measure => simp [intOf]; omega
                · have hnn : ¬ (k : Int) < (fl : Int) := by omega
                  -- the spare map
                  have HB10 := hid (HB8.out.trans (hb10.mono HB8.out.size))
                  have HSM10 : Hid (∀ M, sm = some M → Mp Yba.prog 9 wr M (if (f (.string idv)).isSome then dist SK false ⟨#[]⟩ sl - 1 else dist SK false ⟨#[]⟩ sl) (dropAt f (.string idv))) := fun M hM => (HSM8.out M hM).below hb10
                  have HC6 : Hid (wr.cell? ⟨B, 6, none⟩ = some (.map sm)) := cell_later hb10 (by rw [cell_row HPF8.out]; rfl)
                  clear hb10 HPF8 HSM8 HFM8 HB8 HF HFA HFB HFZ
                  generalize hW10 : wr = w10 at *
                  clear hW10
                  have c6 := HC6.out
                  have m85 : ∀ w : World, (binOp .eql 85 (.map sm) (.map none)).run Yba.prog w = .ok (.bool sm.isNone) w := fun w => run_eql_map_nil w _ _ _ sm Yba.underlying85
                  have q76 : ∀ (w : World) (n' c' : Nat), (binOp .eql 76 (.slice sa sl sc) (.slice none n' c')).run Yba.prog w = .ok (.bool sa.isNone) w := fun w n' c' => Lib.run_eql_slice_nil w _ _ sa sl sc n' c' Yba.underlying76
                  rw [HSM.out.nil] at m85
                  have hcount : (if (f (.string idv)).isSome then dist SK false ⟨#[]⟩ sl - 1 else dist SK false ⟨#[]⟩ sl) = dist SK true idv sl := by
                    have := dist_drop SK idv ⟨#[]⟩ sl
                    rw [HSM.out.last.some]
                    cases hs : seenTo SK idv sl <;> rw [hs] at this <;> simp at this ⊢ <;> omega
                  rw [hcount] at HSM10
                  have hln : ∀ ty, (Builtin.len_ #[85] ty #[.map sm]).run Yba.prog w10 = .ok (goInt (dist SK true idv sl)) w10 := fun ty => by
                    cases hsm : sm with
                    | none => rw [HSM.out.none hsm]; exact len_nil ty w10
                    | some M => exact (HSM10.out M hsm).length Yba.underlying85 ty
                  have HDS := hid (distinct_any sa sb so sl sc SK true idv hsl HSA.out w10 (fun i hi => cell_later HB10.out (HS.out i hi)))
                  generalize hdS : dist SK true idv sl = dS at *
                  generalize hsn : sa.isNone = snn at *
                  have hx1 : (snn != snn) = false := by simp
                  clear hcount
                  go_wp2_with fail
                  refine HDS.out.mono ?_
                  rintro e w11 ⟨rfl, hb11⟩
                  have HB11 := hid hb11
                  clear hb11 hln HDS m85 q76 hsn hx1 c6 hdS
                  go_wp2_with fail
                  go_loopw [230] (fun i wr => ∃ k : Nat, k ≤ sl ∧ i = .int .i64 k ∧ Below w10.heap.size w10 wr) (fun i _ => sl - (intOf i).toNat)
                  case atStart => exact ⟨0, Nat.zero_le _, rfl, HB11.out⟩
                  case round =>
                    obtain ⟨i, hi, rfl, hb12⟩ := hrel
                    clear HB11
                    by_cases hil : i < sl
                    · as_aux_lemma =>
                      have hil' : (i : Int) < (sl : Int) := by omega
                      have hi0 : (0 : Int) ≤ (i : Int) := by omega
                      obtain rfl := HSA.out (by omega)
                      have hb0r : Below w.heap.size w wr := HB10.out.trans (hb12.mono HB10.out.size)
                      have s0 := cell_later hb0r (HS.out i hil)
                      have c6 := cell_later hb12 HC6.out
                      cases sm with
                      | none => exact absurd (HSM.out.none rfl) (by omega)
                      | some M =>
                        have hlk := ((HSM10.out M rfl).below hb12).look keyed Yba.underlying85 (zero4 wr) (key_str (HSZ.out i hil)) true
                        have HB12 := hid hb12
                        have HB0R := hid hb0r
                        clear hb12 hb0r
                        cases hq : ((SK i).toList == idv.toList)
                        · have hne := toList_ne.1 hq
                          rw [dropAt_other _ (by simpa using hne), HSM.out.last (SK i)] at hlk
                          have hsl2 : ∃ L, lastTo SK (SK i) sl = some L := Option.isSome_iff_exists.1 (by rw [lastTo_seen]; exact seen_own SK hil)
                          obtain ⟨L, hL⟩ := hsl2
                          rw [hL] at hlk
                          simp only [Option.map_some, if_true, Option.getD_some, Option.isSome_some] at hlk
                          generalize hvL : vAt vl V L = bv at hlk
                          have HL := hid hL
                          have HVL := hid hvL
                          clear hL hvL hne
                          go_wp2_with fail
                          go_loopw [37, 38] (fun l j wx => ∃ (q : Nat) (l' : Nat), i + 1 ≤ q ∧ q ≤ sl ∧ j = .int .i64 q ∧ l = .int .i64 l' ∧ lastTo SK (SK i) q = some l' ∧ wr = wx) (fun _ j _ => sl - (intOf j).toNat)
                          case atStart => exact ⟨i + 1, i, Nat.le_refl _, by omega, by go_num, rfl, lastTo_at SK i, rfl⟩
                          case round =>
                            obtain ⟨q, l', hq1, hq2, rfl, rfl, hla, hwx⟩ := hrel
                            subst hwx
                            have HLA := hid hla
                            clear hla
                            by_cases hql : q < sl
                            · have hql' : (q : Int) < (sl : Int) := by omega
                              have hq0 : (0 : Int) ≤ (q : Int) := by omega
                              have s1 := cell_later HB0R.out (HS.out q hql)
                              cases he : ((SK q).toList == (SK i).toList)
                              · have HN : Hid (lastTo SK (SK i) (q + 1) = some l') := by show _ = _; simp only [lastTo, he]; exact HLA.out
                                go_wp2_with fail
                                go_roundw
                                case rel => exact ⟨q + 1, l', by omega, by omega, by go_num, rfl, HN.out, trivial⟩
                                case measure => simp [intOf]; omega
                              · have HN : Hid (lastTo SK (SK i) (q + 1) = some q) := by show _ = _; simp only [lastTo, he, if_true]
                                go_wp2_with fail
                                go_roundw
                                case rel => exact ⟨q + 1, q, by omega, by omega, by go_num, rfl, HN.out, trivial⟩
                                case measure => simp [intOf]; omega
                            · have hql' : ¬ (q : Int) < (sl : Int) := by omega
                              obtain rfl : q = sl := by omega
                              obtain rfl : l' = L := by have := HLA.out.symm.trans HL.out; simpa using this
                              have HVA2 := hid (val_any va vb vo vl vc V l' wr HVA.out (fun j hj => cell_later HB0R.out (HV.out j hj)))
                              rw [HVL.out] at HVA2
                              have hbb : (bv != bv) = false := by simp
                              go_wp2_with fail
                              refine HVA2.out.mono ?_
                              rintro e w12 ⟨rfl, rfl⟩
                              go_wp2_with fail
                              go_roundw
                              case rel => exact ⟨i + 1, by omega, by go_num, HB12.out⟩
                              case measure => simp [intOf]; omega
                        · have heq := toList_iff.1 hq
                          rw [heq, dropAt_same] at hlk
                          rw [← heq] at hlk
                          simp only [if_true, Option.getD_none, Option.isSome_none] at hlk
                          clear heq
                          go_wp2_with fail
                          go_roundw
                          case rel => exact ⟨i + 1, by omega, by go_num, HB12.out⟩
                          case measure => simp [intOf]; omega
                    · have hnn2 : ¬ (i : Int) < (sl : Int) := by omega
                      have HBE := hid (HB10.out.trans (hb12.mono HB10.out.size))
                      clear hb12
                      go_wp2_with fail
                      go_ret
                      exact ⟨by first | rfl | simp, HBE.out⟩

end Go.Proofs.Ybulketto.C
