/-
  LawS7281AWhole (3): the walk.
-/
import Derived.Test.YbulkettoAParts
namespace Go.Proofs.Ybulketto
open Go.RowKit
attribute [local go_sem ↓] Go.wp_at_zero Go.wp_at_succ

theorem run_store_float {P : Program} (w : World) (a : Addr) (k : FloatKind) (b : Nat) (m : Mode) : (store a (.float k b) m).run P w = stored P w a (.float k b) m := run_store P w a _ m rfl
attribute [local go_sem] run_store_float

theorem drawn_below (w : World) (n : Nat) : Below w.heap.size w (w.drewN n) := ⟨rfl, rfl, rfl, Nat.le_refl _, fun _ _ => rfl⟩
theorem undrew1 {w w1 : World} (h : Below w.drew.heap.size w.drew w1) : Below w.heap.size w w1 := ⟨h.os, h.tape, h.output, h.size, h.block⟩
theorem neq_ptr (a : Addr) (w : World) : (binOp .neq 27 (.pointer (some a)) (.pointer (some a))).run Yba.prog w = .ok (.bool false) w := by
  have hs : (sameAddr a a).run Yba.prog w = .ok true w := by simp [sameAddr]
  obtain ⟨i, hi, hz⟩ := Option.map_eq_some_iff.1 (show (Yba.prog.info? 37).map (·.size) = some 31 by kernel_rfl)
  have h : ∀ d : Nat, (Op.equalIn (d + 1) 27 (.pointer (some a)) (.pointer (some a))).run Yba.prog w = .ok true w := fun d => by
    simp [Op.equalIn, run_underlying Yba.underlying27, sizeOf, typeInfo, hi, hs]
  simp only [binOp]
  simp [Op.equal, Op.maxDepth, h 9999]

/-- The flow in memory. -/
structure FlowAt (f F T c : Nat) (wx : World) : Prop where
  g0 : wx.cell? ⟨f, 0, none⟩ = some (.pointer (some ⟨F, 0, none⟩))
  g1 : wx.cell? ⟨f, 1, none⟩ = some (.pointer (some ⟨T, 0, none⟩))
  g3 : wx.cell? ⟨f, 3, none⟩ = some (.int .i64 (c : Int))
  g6 : wx.cell? ⟨f, 6, none⟩ = some (.float .f64 0)
  g10 : wx.cell? ⟨f, 10, none⟩ = some (.int .i64 (-1))
theorem FlowAt.below {f F T c : Nat} {wx wy : World} (h : FlowAt f F T c wx) (hb : Below wx.heap.size wx wy) : FlowAt f F T c wy :=
  ⟨cell_later hb h.g0, cell_later hb h.g1, cell_later hb h.g3, cell_later hb h.g6, cell_later hb h.g10⟩

/-- What the law takes for the least of two shares. -/
def Want (a b wv : Nat) : Prop := ((isNaN a ∨ isNaN b) ∧ isNaN wv) ∨ (¬ isNaN a ∧ ¬ isNaN b ∧ ((D.order a b = some .lt ∧ wv = a) ∨ (D.order a b ≠ some .lt ∧ wv = b)))

theorem Eqv.num {a b : Nat} (h : Eqv a b) (hb : ¬ isNaN b) : a = b := by
  rcases h with ⟨_, h⟩ | h
  · exact absurd h hb
  · exact h
theorem Eqv.nan {a b : Nat} (h : Eqv a b) (hb : isNaN b) : isNaN a := by
  rcases h with ⟨h, _⟩ | h
  · exact h
  · rw [h]; exact hb

theorem got_want {q1 q2 g a b wv : Nat} (hg : Got q1 q2 g) (hw : Want a b wv) (h1 : Eqv q1 a) (h2 : Eqv q2 b) : (isNaN g ∧ isNaN wv) ∨ (¬ isNaN g ∧ ¬ isNaN wv ∧ D.order g wv = some .eq) := by
  rcases hw with ⟨hn, hv⟩ | ⟨ha, hb, hw⟩
  · left
    refine ⟨?_, hv⟩
    have hq : isNaN q1 ∨ isNaN q2 := hn.imp h1.nan h2.nan
    rcases hg with ⟨_, hg⟩ | ⟨n1, n2, _⟩
    · exact hg
    · rcases hq with hq | hq
      · exact absurd hq n1
      · exact absurd hq n2
  · right
    obtain rfl := h1.num ha
    obtain rfl := h2.num hb
    rcases hg with ⟨hn, _⟩ | ⟨_, _, hg⟩
    · rcases hn with hn | hn
      · exact absurd hn ha
      · exact absurd hn hb
    · rcases hw with ⟨ho, rfl⟩ | ⟨ho, rfl⟩
      · rcases hg with ⟨_, rfl⟩ | ⟨ho', _⟩
        · exact ⟨ha, ha, order_self ha⟩
        · exact absurd ho ho'
      · rcases hg with ⟨ho', _⟩ | ⟨_, hg⟩
        · exact absurd ho' ho
        · exact ⟨(not_nan_of_order hg).1, hb, hg⟩

set_option maxHeartbeats 4000000 in
set_option maxRecDepth 100000 in
theorem lawA_walk (cls : Int) (same : Bool) (cap1 cap2 : Nat) (U1 N1 U2 N2 : Nat → Nat) (w : World) (hc0 : 0 ≤ cls) (hc1 : cls ≤ 255) (hN1 : ∀ j, j < 4 → N1 j ≤ 65535) (hN2 : ∀ j, j < 4 → N2 j ≤ 65535) :
    Calls Yba.prog 3 #[.int .u8 cls, .bool same, .float .f64 cap1, .agg #[.float .f64 (U1 0), .float .f64 (U1 1), .float .f64 (U1 2), .float .f64 (U1 3)], .agg #[.int .u16 (N1 0 : Int), .int .u16 (N1 1 : Int), .int .u16 (N1 2 : Int), .int .u16 (N1 3 : Int)],
      .float .f64 cap2, .agg #[.float .f64 (U2 0), .float .f64 (U2 1), .float .f64 (U2 2), .float .f64 (U2 3)], .agg #[.int .u16 (N2 0 : Int), .int .u16 (N2 1 : Int), .int .u16 (N2 2 : Int), .int .u16 (N2 3 : Int)]] w fun e w' => e = .returned (.bool true) ∧ Below w.heap.size w w' := by
  have HN1 := hid hN1
  have HN2 := hid hN2
  clear hN1 hN2
  go_enter Yba.func3, Yba.ntmps3
  go_upto_if 33 with fail
  go_cut [11, 12, 14, 15, 18, 19] (fun s11 s12 s14 s15 s18 s19 wx => ∃ B0 B1 B2 B3 F T, s11 = .pointer (some ⟨B0, 0, none⟩) ∧ s12 = .pointer (some ⟨B1, 0, none⟩) ∧ s14 = .pointer (some ⟨B2, 0, none⟩) ∧ s15 = .pointer (some ⟨B3, 0, none⟩) ∧ s18 = .pointer (some ⟨F, 0, none⟩) ∧ s19 = .pointer (some ⟨T, 0, none⟩) ∧ Fresh w B0 B1 B2 B3 F T U1 N1 U2 N2 wx)
  case first =>
    cases same
    · go_wp2_with fail
      go_meet
      exact ⟨_, _, _, _, _, _, rfl, rfl, rfl, rfl, rfl, rfl, fresh_start w U1 N1 U2 N2 _ _ rfl rfl 5 (.inr rfl)⟩
    · go_wp2_with fail
      go_meet
      exact ⟨_, _, _, _, _, _, rfl, rfl, rfl, rfl, rfl, rfl, fresh_start w U1 N1 U2 N2 _ _ rfl rfl 4 (.inl rfl)⟩
  case rest =>
    obtain ⟨B0, B1, B2, B3, F, T, rfl, rfl, rfl, rfl, rfl, rfl, hfr⟩ := hcut
    have hF2 := hfr.cF 2 (by omega)
    have hF7 := hfr.cF 7 (by omega)
    have hF8 := hfr.cF 8 (by omega)
    have hF9 := hfr.cF 9 (by omega)
    have hF10 := hfr.cF 10 (by omega)
    have hT15 := hfr.cT 15 (by omega)
    have hT20 := hfr.cT 20 (by omega)
    have hT21 := hfr.cT 21 (by omega)
    have hT22 := hfr.cT 22 (by omega)
    have hT23 := hfr.cT 23 (by omega)
    obtain ⟨x2, hF2⟩ := hF2
    obtain ⟨x7, hF7⟩ := hF7
    obtain ⟨x8, hF8⟩ := hF8
    obtain ⟨x9, hF9⟩ := hF9
    obtain ⟨x10, hF10⟩ := hF10
    obtain ⟨y15, hT15⟩ := hT15
    obtain ⟨y20, hT20⟩ := hT20
    obtain ⟨y21, hT21⟩ := hT21
    obtain ⟨y22, hT22⟩ := hT22
    obtain ⟨y23, hT23⟩ := hT23
    have b00 := hfr.b0 0 (by omega)
    have b01 := hfr.b0 1 (by omega)
    have b02 := hfr.b0 2 (by omega)
    have b03 := hfr.b0 3 (by omega)
    have b20 := hfr.b2 0 (by omega)
    have b21 := hfr.b2 1 (by omega)
    have b22 := hfr.b2 2 (by omega)
    have b23 := hfr.b2 3 (by omega)
    have fF := hfr.fF
    have fT := hfr.fT
    obtain ⟨_, nF0, nF1, nF2, nF3⟩ := hfr.hF
    obtain ⟨_, nT0, nT1, nT2, nT3⟩ := hfr.hT
    have mF0 := nF0.symm
    have mF2 := nF2.symm
    have mT0 := nT0.symm
    have mT2 := nT2.symm
    go_wp2_with fail
    have hmd := made_start (cap1 := cap1) (cap2 := cap2) hfr
    clear hF2 hF7 hF8 hF9 hF10 hT15 hT20 hT21 hT22 hT23 b00 b01 b02 b03 b20 b21 b22 b23 fF fT mF0 mF2 mT0 mT2
    go_loopw [20] (fun i wr => ∃ k : Nat, k ≤ 4 ∧ i = .int .i64 k ∧ Made w B0 B1 B2 B3 F T cap1 cap2 U1 N1 U2 N2 k k wr) (fun i _ => 4 - (intOf i).toNat)
    case atStart => exact ⟨0, by omega, rfl, hmd⟩
    case round =>
      clear hmd hfr
      obtain ⟨k, hk, rfl, hm⟩ := hrel
      by_cases hk4 : k < 4
      · have hk0 : (0 : Int) ≤ (k : Int) := by omega
        have hk1 : (k : Int) < 4 := by omega
        have c0 := hm.fresh.b1 k hk4
        obtain ⟨v, hv⟩ := hm.fresh.cF (3 + k) (by omega)
        have hFl : F < wr.heap.size := World.block_lt_of_cell? wr _ hv
        have hBl : B1 < wr.heap.size := World.block_lt_of_cell? wr _ c0
        have hfz := hm.fresh.fF (3 + k)
        have hn0 : (0 : Int) ≤ (N1 k : Int) := by omega
        have hn1 : (N1 k : Int) ≤ 65535 := by have := HN1.out k hk4; omega
        obtain ⟨Z, hZ⟩ := make_flows (N1 k) (HN1.out k hk4)
        have hwr : IntKind.i64.wrap (N1 k : Int) = (N1 k : Int) := by rw [IntKind.wrap_i64]; omega
        go_wp2_with fail
        go_region_held3 (fun w' => w'.cell? ⟨B1, k, none⟩ = some (.int .u16 (N1 k : Int))) (first | (go_keep; done)) (fail)
        generalize hW : ((wr.setCell ⟨F, 3 + k, none⟩ (.slice (some ⟨wr.heap.size, 0, none⟩) (N1 k) (N1 k))).alloc (.cells Z 38)).drew = w2
        have hm2 : Made w B0 B1 B2 B3 F T cap1 cap2 U1 N1 U2 N2 (k + 1) k w2 := by rw [← hW]; exact (hm.put1 hk4 (by omega) _ _).below (((Below.refl _ _).alloc (Nat.le_refl _) _).drew)
        clear hW hm c0 hv hFl hBl hfz hn0 hn1 hZ hwr
        have c0 := hm2.fresh.b3 k hk4
        obtain ⟨v', hv⟩ := hm2.fresh.cT (16 + k) (by omega)
        have hTl : T < w2.heap.size := World.block_lt_of_cell? w2 _ hv
        have hBl : B3 < w2.heap.size := World.block_lt_of_cell? w2 _ c0
        have hfz := hm2.fresh.fT (16 + k)
        have hn0 : (0 : Int) ≤ (N2 k : Int) := by omega
        have hn1 : (N2 k : Int) ≤ 65535 := by have := HN2.out k hk4; omega
        obtain ⟨Z', hZ⟩ := make_flows (N2 k) (HN2.out k hk4)
        have hwr : IntKind.i64.wrap (N2 k : Int) = (N2 k : Int) := by rw [IntKind.wrap_i64]; omega
        go_wp2_with fail
        go_region_held3 (fun w' => w'.cell? ⟨B3, k, none⟩ = some (.int .u16 (N2 k : Int))) (first | (go_keep; done)) (fail)
        generalize hW : ((w2.setCell ⟨T, 16 + k, none⟩ (.slice (some ⟨w2.heap.size, 0, none⟩) (N2 k) (N2 k))).alloc (.cells Z' 38)).drew = w3
        have hm3 : Made w B0 B1 B2 B3 F T cap1 cap2 U1 N1 U2 N2 (k + 1) (k + 1) w3 := by rw [← hW]; exact (hm2.put2 (by omega) hk4 _ _).below (((Below.refl _ _).alloc (Nat.le_refl _) _).drew)
        clear hW hm2 c0 hv hTl hBl hfz hn0 hn1 hZ hwr
        go_wp2_with fail
        go_roundw
        case rel => exact ⟨k + 1, by omega, by go_num, hm3⟩
        case measure => simp [intOf]; omega
      · obtain rfl : k = 4 := by omega
        obtain ⟨c, hc⟩ : ∃ c : Nat, (c : Int) = cls % 4 := ⟨(cls % 4).toNat, by omega⟩
        have hc4 : c < 4 := by omega
        have hcc0 : (0 : Int) ≤ (c : Int) := by omega
        have hcc1 : (c : Int) < 4 := by omega
        have hce : cls % 4 = (c : Int) := hc.symm
        rw [hce]
        have HC := hid hce
        clear hc hce
        obtain ⟨p1, cc1, hp1⟩ := hm.f1 c hc4
        obtain ⟨p2, cc2, hp2⟩ := hm.f2 c hc4
        obtain ⟨wf, hwf⟩ : ∃ wf, wf = wr.alloc (.cells #[.pointer (some ⟨F, 0, none⟩), .pointer (some ⟨T, 0, none⟩), .int .i64 0, .int .i64 (c : Int), .pointer none, .int .u64 0, .float .f64 0, .int .i64 0, .float .f64 0, .int .i64 0, .int .i64 (-1), .int .i64 0, .int .i64 0, .chan none, .nilIface, .bool false] 49) := ⟨_, rfl⟩
        have belf : Below wr.heap.size wr wf := by rw [hwf]; exact (Below.refl _ _).alloc (Nat.le_refl _) _
        have hmf := hm.below belf
        have g0 : wf.cell? ⟨wr.heap.size, 0, none⟩ = some (.pointer (some ⟨F, 0, none⟩)) := by rw [hwf]; simp
        have g1 : wf.cell? ⟨wr.heap.size, 1, none⟩ = some (.pointer (some ⟨T, 0, none⟩)) := by rw [hwf]; simp
        have g3 : wf.cell? ⟨wr.heap.size, 3, none⟩ = some (.int .i64 (c : Int)) := by rw [hwf]; simp
        have g6 : wf.cell? ⟨wr.heap.size, 6, none⟩ = some (.float .f64 0) := by rw [hwf]; simp
        have g10 : wf.cell? ⟨wr.heap.size, 10, none⟩ = some (.int .i64 (-1)) := by rw [hwf]; simp
        have HSH := hid (share_any wr.heap.size F T c cap1 (U1 c) (N1 c) cap2 (U2 c) (N2 c) p1 p2 cc1 cc2 hc4 (HN1.out c hc4) (HN2.out c hc4) wf g0 g1 g3 hmf.c1 (hmf.u1 c hc4) (cell_later belf hp1) hmf.c2 (hmf.u2 c hc4) (cell_later belf hp2))
        have HWF := hid hwf.symm
        have hfl : FlowAt wr.heap.size F T c wf := ⟨g0, g1, g3, g6, g10⟩
        clear g0 g1 g3 g6 g10 hwf hp1 hp2 hm
        go_wp2_with fail
        rw [HWF.out]
        refine HSH.out.mono ?_
        rintro e wg ⟨q1, q2, g, rfl, hq1, hq2, hgot, hbg⟩
        have hmg := hmf.below hbg
        have hbg' : Below w.heap.size w wg := hmg.fresh.bel
        have hfg := hfl.below hbg
        have HQ1 := hid hq1
        have HQ2 := hid hq2
        have HGOT := hid hgot
        generalize wr.heap.size = f at *
        clear HSH HWF hfl hq1 hq2 hgot hbg belf hmf
        have s0 := hmg.fresh.b0 c hc4
        have s1 := hmg.fresh.b1 c hc4
        have hn0 : (0 : Int) ≤ (N1 c : Int) := by omega
        have hn1 : (N1 c : Int) ≤ 65535 := by have := HN1.out c hc4; omega
        have hwr : IntKind.i64.wrap (N1 c : Int) = (N1 c : Int) := by rw [IntKind.wrap_i64]; omega
        have hn0' : (0 : Int) ≤ (N2 c : Int) := by omega
        have hn1' : (N2 c : Int) ≤ 65535 := by have := HN2.out c hc4; omega
        have hwr' : IntKind.i64.wrap (N2 c : Int) = (N2 c : Int) := by rw [IntKind.wrap_i64]; omega
        go_wp2_with fail
        go_region_held3 (fun w' => w'.cell? ⟨B0, c, none⟩ = some (.float .f64 (U1 c)) ∧ w'.cell? ⟨B1, c, none⟩ = some (.int .u16 (N1 c : Int))) (first | (go_keep; done))
          (first | (go_at_call 7; refine (aside_any _ _ _ ?_ ?_ _).mono ?_; (exact hn0); (exact hn1); rintro e w1 ⟨va, rfl, hva, ma, rfl⟩))
        have HA := hid hva
        have hmh := hmg.below (drawn_below wg (1 + ma))
        have hfh := hfg.below (drawn_below wg (1 + ma))
        generalize wg.drewN (1 + ma) = wh at *
        clear hva s0 s1 hmg hfg hbg'
        have s0 := hmh.fresh.b2 c hc4
        have s1 := hmh.fresh.b3 c hc4
        go_wp2_with fail
        go_region_held3 (fun w' => w'.cell? ⟨B2, c, none⟩ = some (.float .f64 (U2 c)) ∧ w'.cell? ⟨B3, c, none⟩ = some (.int .u16 (N2 c : Int))) (first | (go_keep; done))
          (first | (go_at_call 7; refine (aside_any _ _ _ ?_ ?_ _).mono ?_; (exact hn0'); (exact hn1'); rintro e w1 ⟨vb, rfl, hvb, mb, rfl⟩))
        have HB := hid hvb
        have hmi := hmh.below (drawn_below wh (1 + mb))
        have hfi := hfh.below (drawn_below wh (1 + mb))
        generalize wh.drewN (1 + mb) = wi at *
        clear hvb s0 s1 hmh hfh hn0 hn1 hwr hn0' hn1' hwr'
        have hE1 := hid (share_aside HQ1.out HA.out)
        have hE2 := hid (share_aside HQ2.out HB.out)
        clear HQ1 HQ2 HA HB
        go_upto_region 20 with fail
        go_cut [113] (fun v wx => ∃ bb, v = .bool bb ∧ (bb = true → isNaN va ∨ isNaN vb) ∧ (bb = false → ¬ isNaN va ∧ ¬ isNaN vb) ∧ wi = wx)
        case first =>
          by_cases hna : isNaN va
          · have hne := neq_nan hna
            have HNA := hid hna
            clear hna
            go_wp2_with fail
            go_meet
            exact ⟨true, rfl, fun _ => .inl HNA.out, (fun h => by cases h), rfl⟩
          · have hne := neq_num hna
            have HNA := hid hna
            clear hna
            by_cases hnb : isNaN vb
            · have hne2 := neq_nan hnb
              have HNB := hid hnb
              clear hnb
              go_wp2_with fail
              go_meet
              exact ⟨true, rfl, fun _ => .inr HNB.out, (fun h => by cases h), rfl⟩
            · have hne2 := neq_num hnb
              have HNB := hid hnb
              clear hnb
              go_wp2_with fail
              go_meet
              exact ⟨false, rfl, (fun h => by cases h), fun _ => ⟨HNA.out, HNB.out⟩, rfl⟩
        case rest =>
          obtain ⟨bb, rfl, hb1, hb2, hwx⟩ := hcut
          subst hwx
          go_upto_if 113 with fail
          go_cut [25] (fun v wx => ∃ wv, v = .float .f64 wv ∧ Want va vb wv ∧ wi = wx)
          case first =>
            cases bb
            · have HB := hid (hb2 rfl)
              clear hb1 hb2
              by_cases hlt : D.order va vb = some .lt
              · have hl : (FloatKind.f64.format.order va vb == some Ordering.lt) = true := by rw [fmt64, hlt]; rfl
                have HL := hid hlt
                clear hlt
                go_wp2_with fail
                go_meet
                exact ⟨va, rfl, .inr ⟨HB.out.1, HB.out.2, .inl ⟨HL.out, rfl⟩⟩, rfl⟩
              · have hl : (FloatKind.f64.format.order va vb == some Ordering.lt) = false := by rw [fmt64]; simpa using hlt
                have HL := hid hlt
                clear hlt
                go_wp2_with fail
                go_meet
                exact ⟨vb, rfl, .inr ⟨HB.out.1, HB.out.2, .inr ⟨HL.out, rfl⟩⟩, rfl⟩
            · have HB := hid (hb1 rfl)
              clear hb1 hb2
              go_wp2_with (go_at_call 8; refine (nan_any _).mono ?_; rintro e w' ⟨rfl, hw⟩; have hw2 := hw.symm; subst hw2)
              go_meet
              exact ⟨_, rfl, .inl ⟨HB.out, nan_const⟩, rfl⟩
          case rest =>
            obtain ⟨wv, rfl, hwant, hwx⟩ := hcut
            subst hwx
            have HGW := hid (got_want HGOT.out hwant hE1.out hE2.out)
            clear hwant HGOT hE1 hE2 hb1 hb2
            obtain ⟨g0, g1, g3, g6, g10⟩ := hfi
            have hpF := neq_ptr ⟨F, 0, none⟩
            have hpT := neq_ptr ⟨T, 0, none⟩
            have hcn : ((c : Int) != (c : Int)) = false := by simp
            have hz0 : (FloatKind.f64.format.order 0 0 != some Ordering.eq) = false := neq_num nan_zero
            rcases HGW.out with ⟨hg, hv⟩ | ⟨hg, hv, ho⟩
            · have k1 := neq_nan hg
              have k2 := neq_nan hv
              have k3 : (FloatKind.f64.format.order wv wv == some Ordering.eq) = false := by rw [fmt64, order_none (.inl hv)]; rfl
              clear hg hv HGW
              go_wp2_with fail
              have a00 := hmi.fresh.b0 0 (by omega)
              have a01 := hmi.fresh.b0 1 (by omega)
              have a02 := hmi.fresh.b0 2 (by omega)
              have a03 := hmi.fresh.b0 3 (by omega)
              have a10 := hmi.fresh.b1 0 (by omega)
              have a11 := hmi.fresh.b1 1 (by omega)
              have a12 := hmi.fresh.b1 2 (by omega)
              have a13 := hmi.fresh.b1 3 (by omega)
              clear g0 g1 g3 g6 g10 hpF hpT hcn hz0
              go_region_with (first
                | (go_at_call_of 9 (Value.pointer (some ⟨F, 2, none⟩)); refine (same_any F 2 cap1 U1 N1 _ HN1.out ?_ ?_ ?_).mono ?_; (exact hmi.c1); (exact hmi.u1); (exact hmi.f1); rintro e wj ⟨rfl, hbj⟩; have hmj := hmi.below (undrew1 hbj); have e20 := hmj.fresh.b2 0 (by omega); have e21 := hmj.fresh.b2 1 (by omega); have e22 := hmj.fresh.b2 2 (by omega); have e23 := hmj.fresh.b2 3 (by omega); have e30 := hmj.fresh.b3 0 (by omega); have e31 := hmj.fresh.b3 1 (by omega); have e32 := hmj.fresh.b3 2 (by omega); have e33 := hmj.fresh.b3 3 (by omega))
                | (go_at_call_of 9 (Value.pointer (some ⟨T, 15, none⟩)); refine (same_any T 15 cap2 U2 N2 _ HN2.out ?_ ?_ ?_).mono ?_; (exact hmj.c2); (exact hmj.u2); (exact hmj.f2); rintro e wk ⟨rfl, hbk⟩))
              all_goals (try go_wp2_with fail)
              all_goals go_ret
              all_goals exact ⟨rfl, hmj.fresh.bel.trans (hbk.mono hmj.fresh.bel.size)⟩
            · have k1 := neq_num hg
              have k2 := neq_num hv
              have k3 : (FloatKind.f64.format.order wv wv == some Ordering.eq) = true := by rw [fmt64, order_self hv]; rfl
              have k4 : (FloatKind.f64.format.order g wv != some Ordering.eq) = false := by rw [fmt64, ho]; rfl
              clear hg hv ho HGW
              go_wp2_with fail
              have a00 := hmi.fresh.b0 0 (by omega)
              have a01 := hmi.fresh.b0 1 (by omega)
              have a02 := hmi.fresh.b0 2 (by omega)
              have a03 := hmi.fresh.b0 3 (by omega)
              have a10 := hmi.fresh.b1 0 (by omega)
              have a11 := hmi.fresh.b1 1 (by omega)
              have a12 := hmi.fresh.b1 2 (by omega)
              have a13 := hmi.fresh.b1 3 (by omega)
              clear g0 g1 g3 g6 g10 hpF hpT hcn hz0
              go_region_with (first
                | (go_at_call_of 9 (Value.pointer (some ⟨F, 2, none⟩)); refine (same_any F 2 cap1 U1 N1 _ HN1.out ?_ ?_ ?_).mono ?_; (exact hmi.c1); (exact hmi.u1); (exact hmi.f1); rintro e wj ⟨rfl, hbj⟩; have hmj := hmi.below (undrew1 hbj); have e20 := hmj.fresh.b2 0 (by omega); have e21 := hmj.fresh.b2 1 (by omega); have e22 := hmj.fresh.b2 2 (by omega); have e23 := hmj.fresh.b2 3 (by omega); have e30 := hmj.fresh.b3 0 (by omega); have e31 := hmj.fresh.b3 1 (by omega); have e32 := hmj.fresh.b3 2 (by omega); have e33 := hmj.fresh.b3 3 (by omega))
                | (go_at_call_of 9 (Value.pointer (some ⟨T, 15, none⟩)); refine (same_any T 15 cap2 U2 N2 _ HN2.out ?_ ?_ ?_).mono ?_; (exact hmj.c2); (exact hmj.u2); (exact hmj.f2); rintro e wk ⟨rfl, hbk⟩))
              all_goals (try go_wp2_with fail)
              all_goals go_ret
              all_goals exact ⟨rfl, hmj.fresh.bel.trans (hbk.mono hmj.fresh.bel.size)⟩

end Go.Proofs.Ybulketto
