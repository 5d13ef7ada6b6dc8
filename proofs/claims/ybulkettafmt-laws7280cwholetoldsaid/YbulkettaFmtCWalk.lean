/-
  LawS7280CWhole (4): the walk.
-/
import Derived.Test.YbulkettaFmtCParts
import Derived.Deep.RegionHeld3
import Derived.Deep.DrawnRows
import Derived.Deep.QuietTactic
import Derived.BigQuiet
import Derived.Deep.DeepCutAuto
import Derived.Deep.CutBlock
namespace Go.Proofs.YbulkettaFmt
open Go.RowKit Go.Extern.Stop Go.Stop Go.Extern
attribute [local go_sem ↓] Go.wp_at_zero Go.wp_at_succ

theorem neq_types (tx ty : TypeId) (vx vy : Value) (hne : tx ≠ ty) (w : World) : (binOp .neq 71 (.iface tx vx) (.iface ty vy)).run Ybaf.prog w = .ok (.bool true) w := by
  have h : ∀ d : Nat, (Op.equalIn (d + 1) 71 (.iface tx vx) (.iface ty vy)).run Ybaf.prog w = .ok false w := fun d => by simp [Op.equalIn, run_underlying Ybaf.underlying71, hne]
  simp only [binOp]
  simp [Op.equal, Op.maxDepth, h 9999]

set_option maxHeartbeats 4000000 in
set_option maxRecDepth 100000 in
theorem lawC_walk (F : Interp) (a : Addr) (t : ByteArray) (a0 : Option Addr) (b off len cap : Nat) (value name : ByteArray) (pick : Int) (w : World) (V R L : Nat → ByteArray)
    (hF : F.answers w.tape) (hG : w.cell? ⟨2, 0, none⟩ = some (.iface 111 (.pointer (some a)))) (ht : w.cell? a = some (.string t))
    (hp0 : 0 ≤ pick) (hp1 : pick ≤ 255)
    (hn0 : a0 = none → len = 0) (ha : 0 < len → a0 = some ⟨b, off, none⟩) (hlen : len ≤ 1048576)
    (h0 : ∀ j, j < len → w.cell? ⟨b, off + j * 3, none⟩ = some (.string (V j)))
    (h1 : ∀ j, j < len → w.cell? ⟨b, off + j * 3 + 1, none⟩ = some (.string (R j)))
    (h2 : ∀ j, j < len → w.cell? ⟨b, off + j * 3 + 2, none⟩ = some (.string (L j))) :
    Calls Ybaf.prog 4 #[.slice a0 len cap, .string value, .int .u8 pick, .string name] w fun e w' => e = .returned (.bool true) ∧ Below w.heap.size w w' := by
  have hl : ¬ ((1048576 : Int) < (len : Int)) := by omega
  obtain ⟨Z, hZ, hmk⟩ := make_statuses len hlen
  have HZ := hid hZ
  have HA := hid ha
  have HN0 := hid hn0
  have H0 := hid h0
  have H1 := hid h1
  have H2 := hid h2
  have HG := hid hG
  have HT := hid ht
  have HF := hid hF
  have HMK := hid hmk
  clear hZ ha hn0 h0 h1 h2 hG ht hF hmk
  go_enter Ybaf.func4, Ybaf.ntmps4
  go_upto_region 3 with fail
  go_cut [27] (fun c wx => ∃ bb, c = .bool bb ∧ w = wx ∧ (bb = true → 0 < len))
  case first =>
    by_cases h0 : 0 < len
    · have h0' : (0 : Int) < (len : Int) := by omega
      go_wp2_with fail
      go_meet
      exact ⟨_, rfl, rfl, fun _ => h0⟩
    · obtain rfl : len = 0 := by omega
      go_wp2_with fail
      go_meet
      exact ⟨_, rfl, rfl, fun h => by simp at h⟩
  case rest =>
    obtain ⟨bb, rfl, hwx, hbb⟩ := hcut
    subst hwx
    have HBB := hid hbb
    clear hbb
    go_upto_if 27 with fail
    go_cut [1] (fun v wx => ∃ vv, v = .string vv ∧ w = wx)
    case first =>
      cases bb
      · go_wp2_with fail
        go_meet
        exact ⟨_, rfl, rfl⟩
      · have h0 := HBB.out rfl
        obtain rfl := HA.out h0
        have hm0 : 0 ≤ pick / 2 % (len : Int) := Int.emod_nonneg _ (by omega)
        have hm1 : pick / 2 % (len : Int) < (len : Int) := Int.emod_lt_of_pos _ (by omega)
        have hix := H0.out (pick / 2 % (len : Int)).toNat (by omega)
        go_wp2_with fail
        go_meet
        exact ⟨_, rfl, rfl⟩
    case rest =>
      obtain ⟨vv, rfl, hwx⟩ := hcut
      subst hwx
      clear HBB bb
      have q75 : ∀ (w : World) (a : Option Addr) (n c n' c' : Nat), (binOp .neq 75 (.slice a n c) (.slice none n' c')).run Ybaf.prog w = .ok (.bool (!a.isNone)) w := fun w a n c n' c' => run_neq_slice_nil_any w _ _ a n c n' c' Ybaf.underlying75
      go_upto_if 39 with fail
      go_cut [9] (fun v wx => ∃ sa cc g, v = .slice sa len cc ∧ sa.isNone = a0.isNone ∧ Below w.heap.size w wx ∧ w.heap.size ≤ g ∧ (0 < len → sa = some ⟨g, 0, none⟩ ∧ St len len V R L g wx))
      case first =>
        cases a0 with
        | none =>
          obtain rfl : len = 0 := HN0.out rfl
          go_wp2_with fail
          go_meet
          exact ⟨none, 0, w.heap.size, rfl, rfl, Below.refl _ _, Nat.le_refl _, fun h => absurd h (by omega)⟩
        | some x =>
          have hmk := HMK.out
          go_wp2_with fail
          clear hmk
          go_loopw [10] (fun i wr => ∃ k : Nat, k ≤ len ∧ i = .int .i64 k ∧ Below w.heap.size w wr ∧ St len k V R L w.heap.size wr) (fun i _ => len - (intOf i).toNat)
          case atStart => exact ⟨0, Nat.zero_le _, rfl, (Below.refl _ _).alloc (Nat.le_refl _) _, St.start w Z HZ.out⟩
          case round =>
            obtain ⟨k, hk, rfl, hb, hst⟩ := hrel
            by_cases hkl : k < len
            · have hkl' : (k : Int) < (len : Int) := by omega
              have hk0 : (0 : Int) ≤ (k : Int) := by omega
              obtain rfl : x = ⟨b, off, none⟩ := by simpa using HA.out (by omega)
              have hbN : b < w.heap.size := World.block_lt_of_cell? w _ (H0.out k hkl)
              have hbne : b ≠ w.heap.size := by omega
              have s0 : wr.cell? ⟨b, off + k * 3, none⟩ = some (.string (V k)) := (hb.cell (p := ⟨b, off + k * 3, none⟩) hbN).trans (H0.out k hkl)
              have s1 : wr.cell? ⟨b, off + k * 3 + 1, none⟩ = some (.string (R k)) := (hb.cell (p := ⟨b, off + k * 3 + 1, none⟩) hbN).trans (H1.out k hkl)
              have s2 : wr.cell? ⟨b, off + k * 3 + 2, none⟩ = some (.string (L k)) := (hb.cell (p := ⟨b, off + k * 3 + 2, none⟩) hbN).trans (H2.out k hkl)
              obtain ⟨⟨v0, e0⟩, ⟨v1, e1⟩, ⟨v2, e2⟩, f0⟩ := hst.room hkl
              go_wp2_with fail
              go_region_held3 (fun w' => w'.cell? ⟨b, off + k * 3, none⟩ = some (.string (V k)) ∧ w'.cell? ⟨b, off + k * 3 + 1, none⟩ = some (.string (R k)) ∧ w'.cell? ⟨b, off + k * 3 + 2, none⟩ = some (.string (L k)))
                (first | (go_keep; done) | (exact keep3 hbne s0 s1 s2)) (fail)
              generalize hW : (((wr.setCell ⟨w.heap.size, k * 3, none⟩ (.string (V k))).setCell ⟨w.heap.size, k * 3 + 1, none⟩ (.string (R k))).setCell ⟨w.heap.size, k * 3 + 2, none⟩ (.string (L k))).drew = w2
              have hst2 : St len (k + 1) V R L w.heap.size w2 := by rw [← hW]; exact hst.step hkl
              have hb2 : Below w.heap.size w w2 := by rw [← hW]; exact (((hb.setCell (Nat.le_refl _) _).setCell (Nat.le_refl _) _).setCell (Nat.le_refl _) _).drew
              clear hW hst hb s0 s1 s2 e0 e1 e2 f0
              go_wp2_with fail
              go_roundw
              case rel => exact ⟨k + 1, by omega, by go_num, hb2, hst2⟩
              case measure => simp [intOf]; omega
            · go_wp2_with fail
              go_meet
              exact ⟨_, len, w.heap.size, rfl, rfl, hb, Nat.le_refl _, fun _ => ⟨rfl, by obtain rfl : k = len := by omega
                                                                                         exact hst⟩⟩
      case rest =>
        obtain ⟨sa, cc, g, rfl, hsa, hb, hgN, hst⟩ := hcut
        have hmk := HMK.out wc
        have hbs := hb.size
        have bel1 : Below wc.heap.size wc (wc.alloc (.cells Z 80)) := (Below.refl _ _).alloc (Nat.le_refl _) _
        obtain ⟨wk, hcp, hk1, hk2, hk3, hk4, hk5, hk6⟩ := copy_keep len sa cc g wc.heap.size V R L Z (wc.alloc (.cells Z 80)) (heap_alloc_new wc _) HZ.out (fun h => ⟨(hst h).1, (hst h).2.below bel1⟩)
        have belk : Below wc.heap.size wc wk := ⟨hk4, hk5, hk6, by rw [hk3]; simp, fun j hj => (hk2 j (by omega)).trans (Below.heap_alloc _ _ _ hj)⟩
        have hszk : wk.heap.size = wc.heap.size + 1 := by rw [hk3]; simp
        have HK1 := hid hk1
        have HST := hid (fun h => (hst h).1)
        have HSTk := hid (fun h => (hst h).2.below belk)
        have hbk : Below w.heap.size w wk := hb.trans (belk.mono hbs)
        clear hk1 hst hk2 hk3 hk4 hk5 hk6
        have belD : Below wk.heap.size wk (wk.alloc (.cells #[.string name, .string ⟨#[]⟩, .string ⟨#[]⟩, .slice none 0 0, .slice none 0 0, .slice none 0 0, .slice sa len cc, .string ⟨#[]⟩, .string ⟨#[114, 49]⟩, .string ⟨#[]⟩, .int .u64 0, .int .i64 0, .pointer none, .string ⟨#[]⟩, .int .u64 0, .int .i64 0, .pointer none, .int .u64 0, .int .i64 0, .pointer none] 84)) := (Below.refl _ _).alloc (Nat.le_refl _) _
        generalize hWD : (wk.alloc (.cells #[.string name, .string ⟨#[]⟩, .string ⟨#[]⟩, .slice none 0 0, .slice none 0 0, .slice none 0 0, .slice sa len cc, .string ⟨#[]⟩, .string ⟨#[114, 49]⟩, .string ⟨#[]⟩, .int .u64 0, .int .i64 0, .pointer none, .string ⟨#[]⟩, .int .u64 0, .int .i64 0, .pointer none, .int .u64 0, .int .i64 0, .pointer none] 84)) = wd at belD
        have d0 : wd.cell? ⟨wc.heap.size + 1, 0, none⟩ = some (.string name) := by rw [← hWD, ← hszk]; simp
        have d6 : wd.cell? ⟨wc.heap.size + 1, 6, none⟩ = some (.slice sa len cc) := by rw [← hWD, ← hszk]; simp
        have d8 : wd.cell? ⟨wc.heap.size + 1, 8, none⟩ = some (.string ⟨#[114, 49]⟩) := by rw [← hWD, ← hszk]; simp
        have hszd : wd.heap.size = wc.heap.size + 2 := by rw [← hWD]; simp [hszk]
        have hbd : Below w.heap.size w wd := hbk.trans (belD.mono (by omega))
        obtain ⟨i1, hi1, hy, hno⟩ := first_yes (fun j => (V j).toList == vv.toList) len
        have HPR := hid (prohibited_any F (wc.heap.size + 1) a t sa g len cc V R L vv wd (by rw [hbd.tape]; exact HF.out) hlen HST.out d6 (cell_later hbd HG.out) (cell_later hbd HT.out)
          (fun j hj => (((HSTk.out (by omega)).below belD).read hj).1) (fun j hj => (((HSTk.out (by omega)).below belD).read hj).2.1) (fun j hj => (((HSTk.out (by omega)).below belD).read hj).2.2) i1 hi1 hy hno)
        have HWD := hid hWD
        have HY := hid hy
        have HNO := hid hno
        clear hWD hy hno
        go_wp2_with fail
        rw [HWD.out]
        refine HPR.out.mono ?_
        rintro e we ⟨hbe, hr⟩
        obtain ⟨ev, rfl, HER⟩ : ∃ ev, e = .returned ev ∧ Hid ((i1 = len ∧ ev = .nilIface) ∨ (i1 < len ∧ ∃ pb T, ev = .iface 110 (.pointer (some ⟨pb, 0, none⟩)) ∧ we.heap[pb]? = some (.cells #[.string T, .iface 111 (.pointer (some a))] 176 (0, 0)))) := by
          rcases hr with ⟨h, rfl⟩ | ⟨h, pb, T, rfl, hT⟩
          · exact ⟨_, rfl, .inl ⟨h, rfl⟩⟩
          · exact ⟨_, rfl, .inr ⟨h, pb, T, rfl, hT⟩⟩
        have hbw : Below w.heap.size w we := hbd.trans (hbe.mono hbd.size)
        have HE0 := hid ((hbe.cell (p := ⟨wc.heap.size + 1, 0, none⟩) (by show wc.heap.size + 1 < _; omega)).trans d0)
        have HE6 := hid ((hbe.cell (p := ⟨wc.heap.size + 1, 6, none⟩) (by show wc.heap.size + 1 < _; omega)).trans d6)
        have HE8 := hid ((hbe.cell (p := ⟨wc.heap.size + 1, 8, none⟩) (by show wc.heap.size + 1 < _; omega)).trans d8)
        have HSG : Hid (0 < len → St len len V R L g we) := fun h => ((HSTk.out h).below belD).below hbe
        have HSK : Hid (0 < len → St len len V R L wc.heap.size we) := fun h => ((HK1.out h).below belD).below hbe
        have hse : wc.heap.size + 2 ≤ we.heap.size := by have := hbe.size; omega
        clear hr HPR HWD hbe hbd belD d0 d6 d8 HSTk HK1 hbk belk bel1 hcp hmk hszk hszd HZ HMK HF q75
        go_wp2_with fail
        go_loop [14, 15] (fun c i => ∃ k : Nat, k ≤ len ∧ i = .int .i64 k ∧ c = .bool (decide (i1 < k))) (fun _ i => len - (intOf i).toNat)
        case atStart => exact ⟨0, Nat.zero_le _, rfl, by simp⟩
        case round =>
          obtain ⟨k, hk, rfl, rfl⟩ := hrel
          by_cases hkl : k < len
          · have hkl' : (k : Int) < (len : Int) := by omega
            have hk0 : (0 : Int) ≤ (k : Int) := by omega
            obtain rfl := HA.out (by omega)
            have hbN : b < w.heap.size := World.block_lt_of_cell? w _ (H0.out k hkl)
            have s0 : we.cell? ⟨b, off + k * 3, none⟩ = some (.string (V k)) := (hbw.cell (p := ⟨b, off + k * 3, none⟩) hbN).trans (H0.out k hkl)
            by_cases hm : ((V k).toList == vv.toList) = true
            · go_wp2_with fail
              go_round
              case rel =>
                refine ⟨k + 1, by omega, by go_num, ?_⟩
                have : ¬ k < i1 := fun h => by have := HNO.out k h; rw [hm] at this; cases this
                rw [decide_eq_true (show i1 < k + 1 by omega)]
              case measure => simp [intOf]; omega
            · have hm' : ((V k).toList == vv.toList) = false := by simpa using hm
              clear hm
              go_wp2_with fail
              go_round
              case rel =>
                refine ⟨k + 1, by omega, by go_num, ?_⟩
                have : i1 ≠ k := fun h => by subst h; have := HY.out hkl; rw [hm'] at this; cases this
                congr 1
                exact decide_eq_decide.2 (by omega)
              case measure => simp [intOf]; omega
          · obtain rfl : k = len := by omega
            have hkl' : ¬ (k : Int) < (k : Int) := by omega
            have e0 := HE0.out
            have e6 := HE6.out
            have e8 := HE8.out
            have hnn : (name.toList != name.toList) = false := by simp
            have hll : ((k : Int) != (k : Int)) = false := by simp
            have hss : (sa.isNone != sa.isNone) = false := by simp
            have q78 : ∀ (w : World) (a : Option Addr) (n c n' c' : Nat), (binOp .eql 78 (.slice a n c) (.slice none n' c')).run Ybaf.prog w = .ok (.bool a.isNone) w := fun w a n c n' c' => Lib.run_eql_slice_nil w _ _ a n c n' c' Ybaf.underlying78
            go_wp2_with fail
            clear e0 e6 e8 hnn hll hss q78
            go_loopw [16] (fun i wr => ∃ m : Nat, m ≤ k ∧ i = .int .i64 m ∧ Below we.heap.size we wr) (fun i _ => k - (intOf i).toNat)
            case atStart => exact ⟨0, Nat.zero_le _, rfl, Below.refl _ _⟩
            case round =>
              obtain ⟨m, hm, rfl, hbr⟩ := hrel
              by_cases hmk : m < k
              · have hmk' : (m : Int) < (k : Int) := by omega
                have hm0 : (0 : Int) ≤ (m : Int) := by omega
                obtain rfl := HST.out (by omega)
                obtain ⟨g0, g1, g2⟩ := (((HSG.out (by omega)).below hbr)).read hmk
                obtain ⟨k0, k1, k2⟩ := (((HSK.out (by omega)).below hbr)).read hmk
                have e6 := (hbr.cell (p := ⟨wc.heap.size + 1, 6, none⟩) (by show wc.heap.size + 1 < _; omega)).trans HE6.out
                go_wp2_with fail
                go_quiet (fail)
                go_wp2_with fail
                go_roundw
                case rel => exact ⟨m + 1, by omega, by go_num, below_drN hbr _⟩
                case measure => simp [intOf]; omega
              · have hmk' : ¬ (m : Int) < (k : Int) := by omega
                rcases HER.out with ⟨h1, rfl⟩ | ⟨h1, pb, T, rfl, hT⟩
                · have hd : decide (i1 < k) = false := by simp; omega
                  go_wp2_with fail
                  go_ret
                  exact ⟨rfl, hbw.trans (hbr.mono (by have := hbw.size; omega))⟩
                · have hd : decide (i1 < k) = true := by simpa using h1
                  have hG1 := cell_later (hbw.trans (hbr.mono (by have := hbw.size; omega))) HG.out
                  have hpl : pb < we.heap.size := (Array.getElem?_eq_some_iff.1 hT).1
                  have hT2 : wr.heap[pb]? = some (.cells #[.string T, .iface 111 (.pointer (some a))] 176 (0, 0)) := (hbr.block pb hpl).trans hT
                  have HIS := hid (is_wrap_same pb 0 a wr (by rw [cell_row hT2]; rfl))
                  have hnt := neq_types 110 111 (.pointer (some ⟨pb, 0, none⟩)) (.pointer (some a)) (by decide)
                  clear hT2 hT
                  go_wp2_with (go_at_call 8; refine HIS.out.mono ?_; rintro e w' ⟨rfl, hw⟩; have hw2 := hw.symm; subst hw2)
                  go_ret
                  exact ⟨rfl, hbw.trans (hbr.mono (by have := hbw.size; omega))⟩

end Go.Proofs.YbulkettaFmt
