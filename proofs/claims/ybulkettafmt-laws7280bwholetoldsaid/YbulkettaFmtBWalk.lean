/-
  LawS7280BWhole (3): the walk.
-/
import Derived.Test.YbulkettaFmtBParts
namespace Go.Proofs.YbulkettaFmt.B
open Go.RowKit Go.Extern.Stop Go.Stop Go.Extern Go.Maps Classical
attribute [local go_sem ↓] Go.wp_at_zero Go.wp_at_succ

theorem other_ne (reg : ByteArray) : ((reg ++ (⟨#[35]⟩ : ByteArray)).toList == reg.toList) = false := by
  have h : ¬ (reg ++ (⟨#[35]⟩ : ByteArray)).toList = reg.toList := by
    rw [ByteArray.toList_eq, ByteArray.toList_eq]
    intro h
    have := congrArg List.length h
    simp at this
  simpa using h

theorem undrew {w w1 : World} (h : Below w.drew.heap.size w.drew w1) : Below w.heap.size w w1 := ⟨h.os, h.tape, h.output, h.size, h.block⟩

theorem neq68 (a b : ByteArray) (w : World) : (binOp .neq 68 (.agg #[.string a, .string b]) (.agg #[.string a, .string b])).run Ybaf.prog w = .ok (.bool false) w := by
  have h1 : ∀ d : Nat, (Op.equalIn (d + 2) 68 (.agg #[.string a, .string b]) (.agg #[.string a, .string b])).run Ybaf.prog w = .ok true w := fun d => by
    rw [run_equalIn_agg _ (d + 1) 68 _ _ (by kernel_rfl) (by kernel_rfl)]
    simp [go_sem, Program.fieldsOf, Ybaf.underlying68, Op.eqFields, run_equalIn_string (P := Ybaf.prog) _ d 9 _ _ Ybaf.underlying9]
  simp [run_neq_struct, h1 9998, Result.andThen]
theorem neq45 (a : Addr) (w : World) : (binOp .neq 45 (.pointer (some a)) (.pointer (some a))).run Ybaf.prog w = .ok (.bool false) w := by
  have hs : (sameAddr a a).run Ybaf.prog w = .ok true w := by simp [sameAddr]
  obtain ⟨i, hi, hz⟩ := Option.map_eq_some_iff.1 (show (Ybaf.prog.info? 63).map (·.size) = some 16 by kernel_rfl)
  have h : ∀ d : Nat, (Op.equalIn (d + 1) 45 (.pointer (some a)) (.pointer (some a))).run Ybaf.prog w = .ok true w := fun d => by
    simp [Op.equalIn, run_underlying Ybaf.underlying45, sizeOf, typeInfo, hi, hs]
  simp only [binOp]
  simp [Op.equal, Op.maxDepth, h 9999]
/-- How many of the first k are found. -/
def cntTo (fd : Nat → Bool) : Nat → Nat
  | 0 => 0
  | k + 1 => cntTo fd k + (fd k).toNat
theorem cntTo_le (fd : Nat → Bool) : ∀ k, cntTo fd k ≤ k
  | 0 => Nat.le_refl _
  | k + 1 => by have := cntTo_le fd k; have := Bool.toNat_le (fd k); simp only [cntTo]; omega
theorem cntTo_four (fd : Nat → Bool) : cntTo fd 4 = cnt fd := by simp [cntTo, cnt]

/-- A contact as the law lays it. -/
abbrev Ct (id s : ByteArray) : Array Value :=
  #[.string id, .string ⟨#[]⟩, .slice none 0 0, .string ⟨#[]⟩, .string ⟨#[]⟩, .string ⟨#[]⟩, .string ⟨#[]⟩, .string ⟨#[]⟩, .pointer none, .string ⟨#[]⟩, .string s, .string ⟨#[]⟩, .int .u64 0, .int .i64 0, .pointer none, .bool false]

set_option maxHeartbeats 4000000 in
set_option maxRecDepth 100000 in
theorem lawB_walk (F : Interp) (aF aS : Addr) (tF tS : ByteArray) (cF cS : Array Value) (uF uS : TypeId) (reg : ByteArray) (sel : Int) (a0 : Option Addr) (b off len cap : Nat) (x : Nat → Int) (O : Nat → Bool)
    (f0 : Option Addr) (fb fo m fc : Nat) (Ty : Nat → ByteArray) (y : Nat → Int) (w : World)
    (hF : F.answers w.tape) (hs : Sent aF aS tF tS w) (hne : aF ≠ aS) (hbF : w.heap[aF.block]? = some (.cells cF uF (0, 0))) (hbS : w.heap[aS.block]? = some (.cells cS uS (0, 0)))
    (hreg : reg.size ≤ 140737488351232) (hs0 : 0 ≤ sel) (hs1 : sel ≤ 255) (hlen : len + m ≤ 1048576)
    (ha : 0 < len → a0 = some ⟨b, off, none⟩) (fn0 : f0 = none → m = 0) (hf : 0 < m → f0 = some ⟨fb, fo, none⟩)
    (h0 : ∀ j, j < len → w.cell? ⟨b, off + j * 2, none⟩ = some (.int .u8 (x j))) (h1 : ∀ j, j < len → w.cell? ⟨b, off + j * 2 + 1, none⟩ = some (.bool (O j))) (hx : ∀ j, j < len → 0 ≤ x j ∧ x j ≤ 255)
    (n0 : ∀ j, j < m → w.cell? ⟨fb, fo + j * 2, none⟩ = some (.string (Ty j))) (n1 : ∀ j, j < m → w.cell? ⟨fb, fo + j * 2 + 1, none⟩ = some (.int .u8 (y j))) (hy : ∀ j, j < m → 0 ≤ y j ∧ y j ≤ 255) :
    Calls Ybaf.prog 3 #[.string reg, .int .u8 sel, .slice a0 len cap, .slice f0 m fc] w fun e w' => e = .returned (.bool true) ∧ Below w.heap.size w w' := by
  have hl : ¬ ((1048576 : Int) < (len : Int) + (m : Int)) := by omega
  have hw : IntKind.i64.wrap ((len : Int) + (m : Int)) = (len : Int) + (m : Int) := by rw [IntKind.wrap_i64]; omega
  have HFA := hid hF
  have HS := hid hs
  have HNE := hid hne
  have HBF := hid hbF
  have HBS := hid hbS
  have HA := hid ha
  have HF := hid hf
  have HN0 := hid fn0
  have H0 := hid h0
  have H1 := hid h1
  have HX := hid hx
  have N0 := hid n0
  have N1 := hid n1
  have HY := hid hy
  clear hF hs hne hbF hbS ha hf fn0 h0 h1 hx n0 n1 hy
  have hmm : ∀ w : World, (Instr.makeMap 25 none).run Ybaf.prog w = .ok (.map (some w.heap.size)) (w.alloc (.map #[] 0)) := fun w => by kernel_rfl
  go_enter Ybaf.func3, Ybaf.ntmps3
  go_upto_region 8 with fail
  go_cut [9, 10, 11, 12, 13, 14, 15] (fun s9 s10 s11 s12 s13 s14 s15 wx => ∃ ot M R Bf Bo Bp Bs, (ot.toList == reg.toList) = false ∧ s9 = .string ot ∧ s10 = .pointer (some ⟨R, 0, none⟩) ∧ s11 = .pointer (some ⟨Bf, 0, none⟩) ∧ s12 = .pointer (some ⟨Bo, 0, none⟩) ∧
    s13 = .pointer (some ⟨Bp, 0, none⟩) ∧ s14 = .pointer (some ⟨Bs, 0, none⟩) ∧ s15 = .int .i64 0 ∧ Order M R Bf Bo Bp Bs ∧ w.heap.size ≤ M ∧ Below w.heap.size w wx ∧ Lp R M Bf Bo Bp Bs (fun _ => none) (fun _ => false) (fun _ => false) (fun _ => 0) reg ot wx)
  case first =>
    as_aux_lemma =>
    go_wp2_with fail
    go_meet
    exact ⟨_, _, _, _, _, _, _, other_ne reg, rfl, rfl, rfl, rfl, rfl, rfl, rfl, ⟨by omega, by omega, by omega, by omega, by omega⟩, Nat.le_refl _, start_below w, start_lp w reg _⟩
  case rest =>
    obtain ⟨ot, M, R, Bf, Bo, Bp, Bs, hot, rfl, rfl, rfl, rfl, rfl, rfl, rfl, hord, hNM, hb, hlp⟩ := hcut
    have HOT := hid hot
    have HORD := hid hord
    have HB := hid hb
    have HLP := hid hlp
    clear hot hord hb hlp hmm
    go_wp2_with fail
    go_loopw [15] (fun i wr => ∃ k : Nat, k ≤ len ∧ i = .int .i64 k ∧ Below w.heap.size w wr ∧ ∃ f fd ow pt, Lp R M Bf Bo Bp Bs f fd ow pt reg ot wr) (fun i _ => len - (intOf i).toNat)
    case atStart => exact ⟨0, Nat.zero_le _, rfl, HB.out, _, _, _, _, HLP.out⟩
    case round =>
      obtain ⟨k, hk, rfl, hb, f, fd, ow, pt, hlp⟩ := hrel
      have HLP1 := hid hlp
      have HB1 := hid hb
      clear HLP HB
      by_cases hkl : k < len
      · have hkl' : (k : Int) < (len : Int) := by omega
        have hk0 : (0 : Int) ≤ (k : Int) := by omega
        obtain rfl := HA.out (by omega)
        have s0 := cell_later hb (H0.out k hkl)
        have s1 := cell_later hb (H1.out k hkl)
        obtain ⟨x0, x1⟩ := HX.out k hkl
        have rem0 : 0 ≤ x k % 4 := by omega
        have rem1 : x k % 4 < 4 := by omega
        have hbs := hb.size
        clear hb hlp
        go_upto_if 59 with fail
        go_cut [17] (fun s wx => s = .string (if O k then reg else ot) ∧ wr = wx)
        case first =>
          as_aux_lemma =>
          cases hO : O k
          · rw [hO] at s1
            go_wp2_with fail
            go_meet
            exact ⟨by simp [hO], rfl⟩
          · rw [hO] at s1
            go_wp2_with fail
            go_meet
            exact ⟨by simp [hO], rfl⟩
        case rest =>
          obtain ⟨rfl, hwr⟩ := hcut
          subst hwr
          generalize hsp : (if O k then reg else ot) = sp
          generalize hkk : (x k % 4).toNat = kk
          have hkk4 : kk < 4 := by omega
          have hxk : x k % 4 = (kk : Int) := by omega
          have HID := hid (id_any (x k) wr x0 x1)
          rw [hkk] at HID
          go_upto_region 16 with (go_at_call 5; refine HID.out.mono ?_; rintro e w1 ⟨rfl, rfl⟩)
          generalize hW1 : w1.alloc (.cells (Ct (idS kk) sp) 63) = wa
          have bel1 : Below w1.heap.size w1 wa := by rw [← hW1]; exact (Below.refl _ _).alloc (Nat.le_refl _) _
          have c0 : wa.cell? ⟨w1.heap.size, 0, none⟩ = some (.string (idS kk)) := by rw [← hW1]; simp
          have c10 : wa.cell? ⟨w1.heap.size, 10, none⟩ = some (.string sp) := by rw [← hW1]; simp
          have hR : wa.cell? ⟨R, 7, none⟩ = some (.map (some M)) := cell_later bel1 HLP1.out.rg.cell
          have bel2 : Below w1.heap.size w1 wa.drew := bel1.drew
          obtain ⟨lk, hlk⟩ := key_id kk
          obtain ⟨w2, hup, hbut, hmp⟩ := (HLP1.out.rg.map.below bel2).put keyed Ybaf.underlying25 hlk (.pointer (some ⟨w1.heap.size, 0, none⟩))
          have HBUT := hid hbut
          have HMP := hid hmp
          have HW1 := hid hW1
          have HC0 := hid c0
          have HC10 := hid c10
          clear hbut hmp hW1 HID hlk c10
          go_region
          clear hup
          obtain ⟨o1, o2, o3, o4, o5⟩ := HORD.out
          have af := ((HLP1.out.below bel2).af.kept (HBUT.out.block Bf (by omega)))
          have ao := ((HLP1.out.below bel2).ao.kept (HBUT.out.block Bo (by omega)))
          have ap := ((HLP1.out.below bel2).ap.kept (HBUT.out.block Bp (by omega)))
          have az := ((HLP1.out.below bel2).az.kept (HBUT.out.block Bs (by omega)))
          have f1 := af.cell hkk4
          have f2 := af.free kk
          have f3 := ao.cell hkk4
          have f4 := ao.free kk
          have f5 := ap.cell hkk4
          have f6 := ap.free kk
          have f7 := az.cell hkk4
          have f8 := az.free kk
          have hbsM : w.heap.size ≤ M := hNM
          have hbM : M < w1.heap.size := HLP1.out.rg.map.lt
          have hbBs : Bs < w1.heap.size := HLP1.out.az.lt
          have hbw : b < w.heap.size := World.block_lt_of_cell? w _ (H1.out k hkl)
          have s1' : w2.cell? ⟨b, off + k * 2 + 1, none⟩ = some (.bool (O k)) := (HBUT.out.cell (a := ⟨b, off + k * 2 + 1, none⟩) (by show b ≠ M; omega)).trans (cell_later bel2 s1)
          clear af ao ap az c0 hR s0 s1
          go_wp2_with fail
          go_roundw
          case rel =>
            have hl2 := HLP1.out.step HORD.out hkk4 (O k) bel2 (Nat.le_refl _) HC0.out (by rw [hsp]; exact HC10.out) HBUT.out HMP.out rfl
            rw [hsp] at hl2
            exact ⟨k + 1, by omega, by go_num, (((((HBUT.out.below ((HB1.out.trans (bel2.mono HB1.out.size))) hNM).setCell (by show w.heap.size ≤ Bf; omega) _).setCell (by show w.heap.size ≤ Bo; omega) _).setCell (by show w.heap.size ≤ Bp; omega) _).setCell (by show w.heap.size ≤ Bs; omega) _), _, _, _, _, hl2⟩
          case measure => simp [intOf]; omega
      · clear hb hlp
        generalize hjs : (sel % 4).toNat = js
        have hjs4 : js < 4 := by omega
        have hsj : sel % 4 = (js : Int) := by omega
        have HID := hid (id_any sel wr hs0 hs1)
        rw [hjs] at HID
        have hnn : ¬ (k : Int) < (len : Int) := by omega
        have hbs := HB1.out.size
        have q23 : ∀ (w : World) (a : Option Addr) (n c n' c' : Nat), (binOp .neq 23 (.slice a n c) (.slice none n' c')).run Ybaf.prog w = .ok (.bool (!a.isNone)) w := fun w a n c n' c' => run_neq_slice_nil_any w _ _ a n c n' c' Ybaf.underlying23
        go_upto_if 97 with (go_at_call 5; refine HID.out.mono ?_; rintro e w1 ⟨rfl, rfl⟩)
        clear HID q23
        generalize hbb : f0.isSome = bb
        generalize hq : (fun j => (y j % 4).toNat) = q
        have HQ := hid hq
        clear hq
        obtain ⟨Z, hZ, hmk⟩ := make_contacts m (by omega)
        have HZ := hid hZ
        have HMK := hid hmk
        clear hZ hmk
        go_cut [20, 21] (fun v20 v21 wx => ∃ sa sk ca ck gC gK, v20 = .slice sa m ca ∧ v21 = .slice sk m ck ∧ sa.isNone = sk.isNone ∧ Below w1.heap.size w1 wx ∧ (0 < m → sa = some ⟨gC, 0, none⟩ ∧ sk = some ⟨gK, 0, none⟩ ∧ Ds m m Ty q gC wx ∧ Ds m m Ty q gK wx))
        case first =>
          as_aux_lemma =>
          cases f0 with
          | none =>
            obtain rfl : m = 0 := HN0.out rfl
            obtain rfl : bb = false := hbb.symm
            go_wp2_with fail
            go_meet
            exact ⟨none, none, 0, 0, 0, 0, rfl, rfl, rfl, Below.refl _ _, fun h => absurd h (by omega)⟩
          | some xx =>
            have hmk := HMK.out
            obtain rfl : bb = true := hbb.symm
            go_wp2_with fail
            go_loopw [22] (fun i wr => ∃ k : Nat, k ≤ m ∧ i = .int .i64 k ∧ Below w1.heap.size w1 wr ∧ Ds m k Ty q w1.heap.size wr ∧ Ds m k Ty q (w1.heap.size + 1) wr) (fun i _ => m - (intOf i).toNat)
            case atStart =>
              refine ⟨0, Nat.zero_le _, rfl, ((Below.refl _ _).alloc (Nat.le_refl _) _).alloc (by simp) _, ?_, ?_⟩
              · exact (Ds.start w1 Z HZ.out).kept (Below.heap_alloc _ _ _ (by simp))
              · have := Ds.start (Ty := Ty) (q := q) (w1.alloc (.cells Z 68)) Z HZ.out
                simpa using this
            case round =>
              obtain ⟨kk, hk2, rfl, hb2, hd1, hd2⟩ := hrel
              clear hmk
              by_cases hkl2 : kk < m
              · as_aux_lemma =>
                have hkl' : (kk : Int) < (m : Int) := by omega
                have hk0' : (0 : Int) ≤ (kk : Int) := by omega
                obtain rfl : xx = ⟨fb, fo, none⟩ := by simpa using HF.out (by omega)
                have hfbN : fb < w.heap.size := World.block_lt_of_cell? w _ (N0.out kk hkl2)
                have hb3 : Below w.heap.size w wr := HB1.out.trans (hb2.mono hbs)
                have s0 := cell_later hb3 (N0.out kk hkl2)
                have s1 := cell_later hb3 (N1.out kk hkl2)
                obtain ⟨y0, y1⟩ := HY.out kk hkl2
                have hqk : (y kk % 4).toNat = q kk := by rw [← HQ.out]
                have HID : Hid (∀ wx : World, Calls Ybaf.prog 5 #[.int .u8 (y kk)] wx fun e w' => e = .returned (.string (idS (q kk))) ∧ w' = wx) := fun wx => by rw [← hqk]; exact id_any (y kk) wx y0 y1
                obtain ⟨⟨v0, e0⟩, ⟨v1, e1⟩, f0⟩ := hd1.room hkl2
                have hfne : fb ≠ w1.heap.size := by omega
                have HD1 := hid hd1
                have HD2 := hid hd2
                have HB2 := hid hb2
                clear hd1 hd2 hb2 hb3 hqk
                go_wp2_with fail
                go_region_held3 (fun w' => w'.cell? ⟨fb, fo + kk * 2, none⟩ = some (.string (Ty kk)) ∧ w'.cell? ⟨fb, fo + kk * 2 + 1, none⟩ = some (.int .u8 (y kk))) (first | (go_keep; done) | (exact ⟨(far (a := ⟨fb, fo + kk * 2, none⟩) _ hfne).trans ((far (a := ⟨fb, fo + kk * 2, none⟩) _ hfne).trans s0), (far (a := ⟨fb, fo + kk * 2 + 1, none⟩) _ hfne).trans ((far (a := ⟨fb, fo + kk * 2 + 1, none⟩) _ hfne).trans s1)⟩))
                  (first | (go_at_call 5; refine (HID.out _).mono ?_; rintro e w9 ⟨rfl, rfl⟩))
                generalize hW : ((wr.setCell ⟨w1.heap.size, kk * 2, none⟩ (.string (Ty kk))).setCell ⟨w1.heap.size, kk * 2 + 1, none⟩ (.string (idS (q kk)))).drew = w3
                have hd3 : Ds m (kk + 1) Ty q w1.heap.size w3 := by rw [← hW]; exact HD1.out.step hkl2
                have hd4 : Ds m kk Ty q (w1.heap.size + 1) w3 := by rw [← hW]; exact HD2.out.kept ((heap_far (j := kk * 2 + 1) (wr.setCell ⟨w1.heap.size, kk * 2, none⟩ (.string (Ty kk))) _ (by omega)).trans (heap_far wr _ (by omega)))
                have hb4 : Below w1.heap.size w1 w3 := by rw [← hW]; exact ((HB2.out.setCell (Nat.le_refl _) _).setCell (Nat.le_refl _) _).drew
                clear hW s0 s1 e0 e1 f0 HD1 HD2 HB2 HID
                obtain ⟨r0, r1⟩ := hd3.read (show kk < kk + 1 by omega)
                obtain ⟨⟨v2, e2⟩, ⟨v3, e3⟩, f2⟩ := hd4.room hkl2
                have HD3 := hid hd3
                have HD4 := hid hd4
                have HB4 := hid hb4
                clear hd3 hd4 hb4
                go_wp2_with fail
                go_roundw
                case rel =>
                  refine ⟨kk + 1, by omega, by go_num, (HB4.out.setCell (by show w1.heap.size ≤ w1.heap.size + 1; omega) _).setCell (by show w1.heap.size ≤ w1.heap.size + 1; omega) _, ?_, HD4.out.step hkl2⟩
                  exact HD3.out.kept ((heap_far (j := kk * 2 + 1) (w3.setCell ⟨w1.heap.size + 1, kk * 2, none⟩ (.string (Ty kk))) _ (by omega)).trans (heap_far w3 _ (by omega)))
                case measure => simp [intOf]; omega
              · have HD1 := hid hd1
                have HD2 := hid hd2
                have HB2 := hid hb2
                clear hd1 hd2 hb2
                obtain rfl : kk = m := by omega
                go_wp2_with fail
                go_meet
                exact ⟨_, _, _, _, _, _, rfl, rfl, rfl, HB2.out, fun _ => ⟨rfl, rfl, HD1.out, HD2.out⟩⟩
        case rest =>
          clear hbb
          obtain ⟨sa, sk, ca, ck, gC, gK, rfl, rfl, hsas, hb, hds⟩ := hcut
          have HDS := hid hds
          have HB2 : Hid (Below w1.heap.size w1 wc) := hb
          clear hb hds HMK HZ H0 H1 HX HA hbs hnn
          have HLP2 := hid (HLP1.out.below HB2.out)
          generalize hc0 : (if js = 0 then 0 else judge fd ow js) = c0
          have HC0 := hid hc0
          clear hc0
          have hl3 := HLP2.out.af.cell (show 0 < 4 by decide)
          have af0 := HLP2.out.af.cell (show 0 < 4 by decide)
          have af1 := HLP2.out.af.cell (show 1 < 4 by decide)
          have af2 := HLP2.out.af.cell (show 2 < 4 by decide)
          have af3 := HLP2.out.af.cell (show 3 < 4 by decide)
          have ao0 := HLP2.out.ao.cell (show 0 < 4 by decide)
          have ao1 := HLP2.out.ao.cell (show 1 < 4 by decide)
          have ao2 := HLP2.out.ao.cell (show 2 < 4 by decide)
          have ao3 := HLP2.out.ao.cell (show 3 < 4 by decide)
          generalize hWC : wc = w2 at *
          clear hWC
          go_upto_if 134 with fail
          go_cut [23] (fun v wx => v = .int .i64 (c0 : Nat) ∧ Below w2.heap.size w2 wx)
          case first =>
            as_aux_lemma =>
            by_cases hjz : js = 0
            · have hjz' : (js : Int) = 0 := by omega
              have hc : c0 = 0 := by have := HC0.out; rw [if_pos hjz] at this; exact this.symm
              subst hjz hc
              go_wp2_with fail
              go_meet
              exact ⟨by simp, Below.refl _ _⟩
            · have hjz' : ¬ (js : Int) = 0 := by omega
              have hc : c0 = judge fd ow js := by have := HC0.out; rw [if_neg hjz] at this; exact this.symm
              have HJ := hid (judge_any fd ow js hjs4 w2)
              rw [← hc] at HJ
              clear hc
              go_wp2_with fail
              refine HJ.out.mono ?_
              rintro e w3 ⟨rfl, hb3⟩
              have HB3 := hid hb3
              clear hb3 HJ
              go_wp2_with fail
              go_meet
              exact ⟨rfl, HB3.out⟩
          case rest =>
            obtain ⟨rfl, hb3⟩ := hcut
            have HB3 : Hid (Below w2.heap.size w2 wc) := hb3
            clear hb3 hl3 af0 af1 af2 af3 ao0 ao1 ao2 ao3
            go_wp2_with fail
            go_loopw [23, 24] (fun v i wr => ∃ kk : Nat, kk ≤ m ∧ i = .int .i64 kk ∧ v = .int .i64 (firstCode c0 (fun i => judge fd ow (q i)) kk : Nat) ∧ Below w2.heap.size w2 wr) (fun _ i _ => m - (intOf i).toNat)
            case atStart => exact ⟨0, Nat.zero_le _, rfl, rfl, HB3.out⟩
            case round =>
              obtain ⟨kk, hk2, rfl, rfl, hb4⟩ := hrel
              generalize hcode : firstCode c0 (fun i => judge fd ow (q i)) kk = cd
              have HB4 := hid hb4
              go_upto_region 35 with fail
              go_cut [148] (fun v wx => v = .bool (decide (cd = 0 ∧ kk < m)) ∧ wr = wx)
              case first =>
                as_aux_lemma =>
                by_cases hcz : cd = 0
                · subst hcz
                  by_cases hkl2 : kk < m
                  · as_aux_lemma =>
                    have hkl' : (kk : Int) < (m : Int) := by omega
                    go_wp2_with fail
                    go_meet
                    exact ⟨by simp [hkl2], rfl⟩
                  · have hkl' : ¬ (kk : Int) < (m : Int) := by omega
                    go_wp2_with fail
                    go_meet
                    exact ⟨by simp [hkl2], rfl⟩
                · have hcz' : ¬ (cd : Int) = 0 := by omega
                  go_wp2_with fail
                  go_meet
                  exact ⟨by simp [hcz], rfl⟩
              case rest =>
                obtain ⟨rfl, hwr⟩ := hcut
                subst hwr
                by_cases hgo : cd = 0 ∧ kk < m
                · as_aux_lemma =>
                  rw [decide_eq_true hgo]
                  obtain ⟨rfl, hkl2⟩ := hgo
                  have hkl' : (kk : Int) < (m : Int) := by omega
                  have hk0' : (0 : Int) ≤ (kk : Int) := by omega
                  obtain rfl := HF.out (by omega)
                  have hb1r : Below w1.heap.size w1 wr := HB2.out.trans (hb4.mono HB2.out.size)
                  have hb0r : Below w.heap.size w wr := HB1.out.trans (hb1r.mono HB1.out.size)
                  have s1 := cell_later hb0r (N1.out kk hkl2)
                  obtain ⟨y0, y1⟩ := HY.out kk hkl2
                  have hqk : (y kk % 4).toNat = q kk := by rw [← HQ.out]
                  have hq4 : q kk < 4 := by omega
                  have hyq : y kk % 4 = (q kk : Int) := by omega
                  have hlr := HLP1.out.below hb1r
                  have af0 := hlr.af.cell (show 0 < 4 by decide)
                  have af1 := hlr.af.cell (show 1 < 4 by decide)
                  have af2 := hlr.af.cell (show 2 < 4 by decide)
                  have af3 := hlr.af.cell (show 3 < 4 by decide)
                  have ao0 := hlr.ao.cell (show 0 < 4 by decide)
                  have ao1 := hlr.ao.cell (show 1 < 4 by decide)
                  have ao2 := hlr.ao.cell (show 2 < 4 by decide)
                  have ao3 := hlr.ao.cell (show 3 < 4 by decide)
                  have HJ : Hid (∀ wx : World, Calls Ybaf.prog 6 #[.agg #[.bool (fd 0), .bool (fd 1), .bool (fd 2), .bool (fd 3)], .agg #[.bool (ow 0), .bool (ow 1), .bool (ow 2), .bool (ow 3)], .int .i64 (IntKind.i64.wrap ((y kk).tmod 4))] wx fun e w' => e = .returned (.int .i64 (judge fd ow (q kk) : Nat)) ∧ Below wx.heap.size wx w') := fun wx => by rw [Int.tmod_eq_emod_of_nonneg y0, hyq, show IntKind.i64.wrap ((q kk : Int)) = (q kk : Int) by rw [IntKind.wrap_i64]; omega]; exact judge_any fd ow (q kk) hq4 wx
                  have rem0 : 0 ≤ y kk % 4 := by omega
                  have rem1 : y kk % 4 < 4 := by omega
                  clear hlr hb0r hb1r hb4 hqk hyq
                  go_wp2_with fail
                  go_region_held3 (fun w' => w'.cell? ⟨fb, fo + kk * 2 + 1, none⟩ = some (.int .u8 (y kk)) ∧ w'.cell? ⟨Bf, 0, none⟩ = some (.bool (fd 0)) ∧ w'.cell? ⟨Bf, 1, none⟩ = some (.bool (fd 1)) ∧ w'.cell? ⟨Bf, 2, none⟩ = some (.bool (fd 2)) ∧ w'.cell? ⟨Bf, 3, none⟩ = some (.bool (fd 3)) ∧
                      w'.cell? ⟨Bo, 0, none⟩ = some (.bool (ow 0)) ∧ w'.cell? ⟨Bo, 1, none⟩ = some (.bool (ow 1)) ∧ w'.cell? ⟨Bo, 2, none⟩ = some (.bool (ow 2)) ∧ w'.cell? ⟨Bo, 3, none⟩ = some (.bool (ow 3)))
                    (first | (go_keep; done)) (first | (go_at_call 6; refine (HJ.out _).mono ?_; rintro e w9 ⟨rfl, hb9⟩; have hb9' := undrew hb9; have t1 := cell_later hb9' s1; have t2 := cell_later hb9' af0; have t3 := cell_later hb9' af1; have t4 := cell_later hb9' af2; have t5 := cell_later hb9' af3; have t6 := cell_later hb9' ao0; have t7 := cell_later hb9' ao1; have t8 := cell_later hb9' ao2; have t9 := cell_later hb9' ao3))
                  have HB9 : Hid (Below w2.heap.size w2 w9) := HB4.out.trans (hb9'.mono HB4.out.size)
                  clear hb9 hb9' t1 t2 t3 t4 t5 t6 t7 t8 t9 s1 af0 af1 af2 af3 ao0 ao1 ao2 ao3 HJ
                  have HCODE := hid hcode
                  clear hcode
                  go_wp2_with fail
                  go_roundw
                  case rel => exact ⟨kk + 1, by omega, by go_num, by rw [firstCode_succ, if_pos HCODE.out], HB9.out⟩
                  case measure => simp [intOf]; omega
                · rw [decide_eq_false hgo]
                  have hfm : firstCode c0 (fun i => judge fd ow (q i)) m = cd := by
                    by_cases hcz : cd = 0
                    · obtain rfl : kk = m := by omega
                      exact hcode
                    · rw [firstCode_stays (i := kk) (by rw [hcode]; exact hcz) m hk2]; exact hcode
                  have HFM := hid hfm
                  clear hfm hcode hgo hb4
                  have hb1r : Below w1.heap.size w1 wr := HB2.out.trans (HB4.out.mono HB2.out.size)
                  have hb0r : Below w.heap.size w wr := HB1.out.trans (hb1r.mono HB1.out.size)
                  have HDS4 : Hid (0 < m → sa = some ⟨gC, 0, none⟩ ∧ sk = some ⟨gK, 0, none⟩ ∧ Ds m m Ty q gC wr ∧ Ds m m Ty q gK wr) := fun h => ⟨(HDS.out h).1, (HDS.out h).2.1, (HDS.out h).2.2.1.below HB4.out, (HDS.out h).2.2.2.below HB4.out⟩
                  have hqs : ∀ i, i < m → q i < 4 := fun i hi => by
                    obtain ⟨y0, y1⟩ := HY.out i hi
                    have : q i = (y i % 4).toNat := by rw [← HQ.out]
                    omega
                  have HC7 := hid (contacts_any F js hjs4 sa gC m ca Ty q (by omega) (fun h => (HDS4.out h).1) hqs wr (fun i hi => ((HDS4.out (by omega)).2.2.1.read hi).1) (fun i hi => ((HDS4.out (by omega)).2.2.1.read hi).2)
                    (by rw [hb0r.tape]; exact HFA.out) (HS.out.below hb0r) (HLP1.out.below hb1r).rg HOT.out)
                  rw [HC0.out, HFM.out] at HC7
                  have HB0R := hid hb0r
                  have HB1R := hid hb1r
                  clear hqs hb0r hb1r HDS HY HQ N0 N1 HF HN0
                  go_wp2_with fail
                  refine HC7.out.mono ?_
                  rintro e w5 ⟨ev, rfl, hb5, her⟩
                  have HER := hid her
                  have HB5 := hid hb5
                  clear hb5 her HC7
                  go_upto_block 6 with fail
                  have hb05 : Below w.heap.size w w5 := HB0R.out.trans (HB5.out.mono HB0R.out.size)
                  have hs5 := HS.out.below hb05
                  have g0 := hs5.g0
                  have g1 := hs5.g1
                  have bF : w5.heap[aF.block]? = some (.cells cF uF (0, 0)) := (hb05.block _ (Array.getElem?_eq_some_iff.1 HBF.out).1).trans HBF.out
                  have bS : w5.heap[aS.block]? = some (.cells cS uS (0, 0)) := (hb05.block _ (Array.getElem?_eq_some_iff.1 HBS.out).1).trans HBS.out
                  have HBF5 := hid bF
                  have HBS5 := hid bS
                  have HB05 := hid hb05
                  clear hs5 bF bS hb05
                  go_cut [8] (fun v wx => v = .bool false ∧ w5 = wx)
                  case first =>
                    as_aux_lemma =>
                    rcases HER.out with ⟨hc, rfl⟩ | ⟨hc, pb, T, rfl, hT⟩ | ⟨hc, pb, T, rfl, hT⟩
                    · subst hc
                      clear HER HFM
                      go_wp2_with fail
                      go_meet
                      exact ⟨rfl, rfl⟩
                    · subst hc
                      clear HER HFM
                      have HI1 := hid (is_wrap_same pb 0 aF w5 (by rw [cell_row hT]; rfl))
                      have HI2 := hid (is_wrap_other pb 0 aS aF cF cS uF uS w5 (by rw [cell_row hT]; rfl) HNE.out HBF5.out HBS5.out)
                      clear hT
                      go_wp2_with fail
                      refine HI1.out.mono ?_
                      rintro e w6 ⟨rfl, rfl⟩
                      go_wp2_with fail
                      refine HI2.out.mono ?_
                      rintro e w7 ⟨rfl, rfl⟩
                      go_wp2_with fail
                      go_meet
                      exact ⟨rfl, rfl⟩
                    · subst hc
                      clear HER HFM
                      have HI1 := hid (is_wrap_same pb 0 aS w5 (by rw [cell_row hT]; rfl))
                      have HI2 := hid (is_wrap_other pb 0 aF aS cS cF uS uF w5 (by rw [cell_row hT]; rfl) (Ne.symm HNE.out) HBS5.out HBF5.out)
                      clear hT
                      go_wp2_with fail
                      refine HI1.out.mono ?_
                      rintro e w6 ⟨rfl, rfl⟩
                      go_wp2_with fail
                      refine HI2.out.mono ?_
                      rintro e w7 ⟨rfl, rfl⟩
                      go_wp2_with fail
                      go_meet
                      exact ⟨rfl, rfl⟩
                  case rest =>
                    obtain ⟨rfl, hw5⟩ := hcut
                    subst hw5
                    have q64 : ∀ (w : World) (a : Option Addr) (n c n' c' : Nat), (binOp .eql 64 (.slice a n c) (.slice none n' c')).run Ybaf.prog w = .ok (.bool a.isNone) w := fun w a n c n' c' => Lib.run_eql_slice_nil w _ _ a n c n' c' Ybaf.underlying64
                    have hlp5 : Lp R M Bf Bo Bp Bs f fd ow pt reg ot w5 := (HLP1.out.below HB1R.out).below HB5.out
                    have HLP5 := hid hlp5
                    have HDS5 : Hid (0 < m → sa = some ⟨gC, 0, none⟩ ∧ sk = some ⟨gK, 0, none⟩ ∧ Ds m m Ty q gC w5 ∧ Ds m m Ty q gK w5) := fun h => ⟨(HDS4.out h).1, (HDS4.out h).2.1, (HDS4.out h).2.2.1.below HB5.out, (HDS4.out h).2.2.2.below HB5.out⟩
                    clear hlp5 HDS4 HER HFM HB1R HB0R HB5 HLP1 HLP2 g0 g1 HS HFA HBF HBS HBF5 HBS5 HNE HC0 HB4
                    generalize hsn : sk.isNone = sn at hsas
                    have q1 := fun w => q64 w sa m ca
                    have q2 := fun w => q64 w sk m ck
                    rw [hsas] at q1
                    rw [hsn] at q2
                    have hsx : (sn != sn) = false := by simp
                    have hsy : (!(sn == sn)) = false := by simp
                    clear q64 hsn hsas
                    go_wp2_with fail
                    clear q1 q2 hsx hsy
                    go_loopw [26] (fun i wr => ∃ kk : Nat, kk ≤ m ∧ i = .int .i64 kk ∧ Below w5.heap.size w5 wr) (fun i _ => m - (intOf i).toNat)
                    case atStart => exact ⟨0, Nat.zero_le _, rfl, Below.refl _ _⟩
                    case round =>
                      obtain ⟨k3, hk3, rfl, hb6⟩ := hrel
                      by_cases hkl3 : k3 < m
                      · as_aux_lemma =>
                        have hkl' : (k3 : Int) < (m : Int) := by omega
                        have hk0' : (0 : Int) ≤ (k3 : Int) := by omega
                        obtain ⟨e1, e2, d1, d2⟩ := HDS5.out (by omega)
                        subst e1 e2
                        obtain ⟨a0, a1⟩ := (d1.below hb6).read hkl3
                        obtain ⟨b0, b1⟩ := (d2.below hb6).read hkl3
                        have n68 := neq68 (Ty k3) (idS (q k3))
                        have HB6 := hid hb6
                        clear d1 d2 hb6
                        go_wp2_with fail
                        go_quiet (fail)
                        go_wp2_with fail
                        go_roundw
                        case rel => exact ⟨k3 + 1, by omega, by go_num, below_drewN HB6.out _⟩
                        case measure => simp [intOf]; omega
                      · have hnn3 : ¬ (k3 : Int) < (m : Int) := by omega
                        have HLP6 := hid (HLP5.out.below hb6)
                        have HB6 := hid hb6
                        clear hb6 HDS5 HLP5
                        go_wp2_with fail
                        go_loopw [27, 28] (fun n i wx => ∃ kk : Nat, kk ≤ 4 ∧ i = .int .i64 kk ∧ n = .int .i64 (cntTo fd kk : Nat) ∧ Below w5.heap.size w5 wx ∧ Lp R M Bf Bo Bp Bs f fd ow pt reg ot wx) (fun _ i _ => 4 - (intOf i).toNat)
                        case atStart => exact ⟨0, by omega, rfl, rfl, HB6.out, HLP6.out⟩
                        case round =>
                          obtain ⟨k4, hk4, rfl, rfl, hb7, hlp7⟩ := hrel
                          clear HLP6 HB6
                          by_cases hkl4 : k4 < 4
                          · have hkl' : (k4 : Int) < 4 := by omega
                            have hk0' : (0 : Int) ≤ (k4 : Int) := by omega
                            have a1 := hlp7.af.cell hkl4
                            cases hfd : fd k4
                            · rw [hfd] at a1
                              have HB7 := hid hb7
                              have HLP7 := hid hlp7
                              have HFD := hid hfd
                              clear hb7 hlp7 hfd
                              go_wp2_with fail
                              go_roundw
                              case rel => exact ⟨k4 + 1, by omega, by go_num, by simp [cntTo, HFD.out], HB7.out, HLP7.out⟩
                              case measure => simp [intOf]; omega
                            · rw [hfd] at a1
                              have a2 := hlp7.ap.cell hkl4
                              have a3 := hlp7.az.cell hkl4
                              rw [hfd] at a2 a3
                              have a4 := hlp7.rg.id k4 hkl4 hfd
                              have a5 := hlp7.rg.sponsor k4 hkl4 hfd
                              simp only [if_true] at a2 a3
                              generalize (if ow k4 = true then reg else ot) = sp at a3 a5
                              have a6 := hlp7.rg.cell
                              obtain ⟨lk, hlk⟩ := key_id k4
                              have hlook : ∀ wz, Below wr.heap.size wr wz → (Instr.lookup 25 (.map (some M)) (.string (idS k4)) false).run Ybaf.prog wz = .ok (.pointer (some ⟨pt k4, 0, none⟩)) wz := fun wz hz => by
                                have := (hlp7.rg.map.below hz).look keyed Ybaf.underlying25 (zero45 wz) hlk false
                                rw [hlp7.rg.val k4 hkl4, hfd] at this
                                simpa using this
                              have hcv : IntKind.u8.wrap (k4 : Int) = (k4 : Int) := by rw [IntKind.wrap_u8]; omega
                              have HID : Hid (∀ wx : World, Calls Ybaf.prog 5 #[.int .u8 (k4 : Int)] wx fun e w' => e = .returned (.string (idS k4)) ∧ w' = wx) := fun wx => by
                                have := id_any (k4 : Int) wx (by omega) (by omega)
                                rwa [show ((k4 : Int) % 4).toNat = k4 by omega] at this
                              have n45 := neq45 ⟨pt k4, 0, none⟩
                              have HB7 := hid hb7
                              have HLP7 := hid hlp7
                              have HFD := hid hfd
                              have HLK := hid hlook
                              have hlk1 := hlook wr (Below.refl _ _)
                              clear hb7 hlp7 hfd hlk hlook
                              have hlk2 := HLK.out wr.drew ((Below.refl _ _).drew)
                              have hnw : wrap64 ((cntTo fd k4 : Int) + 1) = (cntTo fd k4 : Int) + 1 := by
                                have := cntTo_le fd k4
                                unfold wrap64; omega
                              go_wp2_with fail
                              go_region_held3 (fun w' => w'.cell? ⟨R, 7, none⟩ = some (.map (some M)) ∧ (Instr.lookup 25 (.map (some M)) (.string (idS k4)) false).run Ybaf.prog w' = .ok (.pointer (some ⟨pt k4, 0, none⟩)) w')
                                (first | (go_keep; done)) (first | (go_at_call 5; refine (HID.out _).mono ?_; rintro e w9 ⟨rfl, rfl⟩))
                              clear hlk1 hlk2 a6 HLK
                              have HB8 : Hid (Below w5.heap.size w5 wr.drew) := HB7.out.drew
                              have HLP8 := hid (HLP7.out.below ((Below.refl _ _).drew))
                              have b2 : wr.drew.cell? ⟨Bp, k4, none⟩ = some (.pointer (some ⟨pt k4, 0, none⟩)) := a2
                              have b3 : wr.drew.cell? ⟨Bs, k4, none⟩ = some (.string sp) := a3
                              have b4 : wr.drew.cell? ⟨pt k4, 0, none⟩ = some (.string (idS k4)) := a4
                              have b5 : wr.drew.cell? ⟨pt k4, 10, none⟩ = some (.string sp) := a5
                              clear a1 a2 a3 a4 a5 HB7 HLP7
                              generalize wr.drew = w10 at *
                              have t1 : (sp.toList == sp.toList) = true := by simp
                              have t2 : ((idS k4).toList == (idS k4).toList) = true := by simp
                              go_wp2_with fail
                              go_region_held3 (fun w' => w'.cell? ⟨Bp, k4, none⟩ = some (.pointer (some ⟨pt k4, 0, none⟩)) ∧ w'.cell? ⟨Bs, k4, none⟩ = some (.string sp) ∧ w'.cell? ⟨pt k4, 0, none⟩ = some (.string (idS k4)) ∧ w'.cell? ⟨pt k4, 10, none⟩ = some (.string sp))
                                (first | (go_keep; done)) (first | (go_at_call 5; refine (HID.out _).mono ?_; rintro e w9 ⟨rfl, rfl⟩))
                              go_wp2_with fail
                              go_roundw
                              case rel => exact ⟨k4 + 1, by omega, by go_num, by simp [cntTo, HFD.out], HB8.out.drew, HLP8.out.below ((Below.refl _ _).drew)⟩
                              case measure => simp [intOf]; omega
                          · have hnn4 : ¬ (k4 : Int) < 4 := by omega
                            obtain rfl : k4 = 4 := by omega
                            have a6 := hlp7.rg.cell
                            have hlen := hlp7.rg.map.length Ybaf.underlying25
                            have hb0 : Below w.heap.size w wr := HB05.out.trans (hb7.mono HB05.out.size)
                            have HB0 := hid hb0
                            rw [cntTo_four]
                            generalize cnt fd = cn at *
                            clear hb0 hb7 hlp7
                            go_wp2_with fail
                            go_ret
                            exact ⟨by first | rfl | simp, HB0.out⟩

end Go.Proofs.YbulkettaFmt.B
