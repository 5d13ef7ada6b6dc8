/-
  LawS7293AWhole (3): the walk.
-/
import Derived.Test.YbulkeuaaASame
import Derived.Deep.WholeRow
namespace Go.Proofs.Ybulkeuaa
open Go.RowKit
attribute [local go_sem ↓] Go.wp_at_zero Go.wp_at_succ

abbrev Op30 (id : ByteArray) : Array Value :=
  #[.string id, .int .u64 0, .int .i64 0, .pointer none, .string ⟨#[]⟩, .string ⟨#[]⟩, .slice none 0 0, .string ⟨#[]⟩, .string ⟨#[]⟩, .int .u64 0, .int .i64 0, .pointer none, .int .i64 0, .int .i64 0, .string ⟨#[]⟩, .string ⟨#[]⟩, .string ⟨#[]⟩, .int .i64 0]
theorem b42 (id : ByteArray) (settled : Bool) (sa sb : Option Addr) (len m cc cd : Nat) (w : World) : (Instr.build 42 #[(0, .agg (Op30 id)), (6, .bool settled), (7, .agg #[.slice sa len cc, .slice sb m cd])]).run Yba.prog w = .ok (.agg (Rd id settled sa sb len m cc cd)) w := by kernel_rfl
abbrev Z42 : Array Value := Rd ⟨#[]⟩ false none none 0 0 0 0
theorem i42 : (Yba.prog.info? 42).map (·.size) = some 32 := by kernel_rfl
theorem st42 (id : ByteArray) (settled : Bool) (sa sb : Option Addr) (len m cc cd : Nat) (w : World) : (Instr.storeAt 42 (.pointer (some ⟨w.heap.size, 0, none⟩)) (.agg (Rd id settled sa sb len m cc cd))).run Yba.prog (w.alloc (.cells Z42 42)) = .ok () (w.alloc (.cells (Rd id settled sa sb len m cc cd) 42)) :=
  run_storeAt_new w 42 Z42 _ i42 rfl (by simp [Value.oneCell'])

-- the walk takes the one great store by 'st42' (opened into 32 cells it costs the kernel more than 10 GB)
def shutStore (v x : Value) : Sem Unit := Instr.storeAt 42 v x
def shutLoad (v : Value) : Sem Value := Instr.loadAt 42 v
theorem store_shut (v x : Value) : Instr.storeAt 42 v x = shutStore v x := rfl
theorem load_shut (v : Value) : Instr.loadAt 42 v = shutLoad v := rfl
attribute [local go_sem ↓] store_shut load_shut
theorem ld42 (id : ByteArray) (settled : Bool) (sa sb : Option Addr) (len m cc cd : Nat) (w : World) : (Instr.loadAt 42 (.pointer (some ⟨w.heap.size, 0, none⟩))).run Yba.prog (w.alloc (.cells (Rd id settled sa sb len m cc cd) 42)) = .ok (.agg (Rd id settled sa sb len m cc cd)) (w.alloc (.cells (Rd id settled sa sb len m cc cd) 42)) := by
  simp only [Instr.loadAt, Instr.sureAddr, Sem.run_bind, Sem.run_pure, Result.andThen]
  exact run_loadVar_row _ _ 42 42 _ (0, 0) _ (heap_alloc_new w _) Yba.underlying42 rfl i42
set_option maxHeartbeats 4000000 in
set_option maxRecDepth 100000 in
theorem lawA_walk (a0 : Option Addr) (b off len cap : Nat) (V R L : Nat → ByteArray) (f0 : Option Addr) (fb fo m fc : Nat) (S : Nat → ByteArray) (id : ByteArray) (settled : Bool) (w : World)
    (hlen : len + m ≤ 1048576) (hn0 : a0 = none → len = 0) (ha : 0 < len → a0 = some ⟨b, off, none⟩) (fn0 : f0 = none → m = 0) (hf : 0 < m → f0 = some ⟨fb, fo, none⟩)
    (h0 : ∀ j, j < len → w.cell? ⟨b, off + j * 3, none⟩ = some (.string (V j)))
    (h1 : ∀ j, j < len → w.cell? ⟨b, off + j * 3 + 1, none⟩ = some (.string (R j)))
    (h2 : ∀ j, j < len → w.cell? ⟨b, off + j * 3 + 2, none⟩ = some (.string (L j)))
    (hS : ∀ j, j < m → w.cell? ⟨fb, fo + j, none⟩ = some (.string (S j))) :
    Calls Yba.prog 3 #[.slice a0 len cap, .slice f0 m fc, .string id, .bool settled] w fun e w' => e = .returned (.bool true) ∧ Below w.heap.size w w' := by
  have hl : ¬ ((1048576 : Int) < (len : Int) + (m : Int)) := by omega
  have hw : IntKind.i64.wrap ((len : Int) + (m : Int)) = (len : Int) + (m : Int) := by rw [IntKind.wrap_i64]; omega
  have C4 := hid (refs_any a0 b off len cap V R L w (by omega) hn0 ha h0 h1 h2)
  have HA := hid ha
  have HF := hid hf
  have HN0 := hid hn0
  have HM0 := hid fn0
  have H0 := hid h0
  have H1 := hid h1
  have H2 := hid h2
  have HS := hid hS
  clear ha hf hn0 fn0 h0 h1 h2 hS
  go_enter Yba.func3, Yba.ntmps3
  go_wp2_with fail
  refine C4.out.mono ?_
  rintro e w1 ⟨sa, cc, g, rfl, hb1, hsa, hst⟩
  have C5 := hid (strs_any f0 fb fo m fc S w1 (by omega) HM0.out HF.out (fun j hj => cell_later hb1 (HS.out j hj)))
  have HST := hid hst
  have hs1 := hb1.size
  clear hst
  go_wp2_with fail
  refine C5.out.mono ?_
  rintro e w2 ⟨sb, cd, h, rfl, hb2, hsb, hss⟩
  have hb02 : Below w.heap.size w w2 := hb1.trans (hb2.mono hs1)
  have HST2 := hid (fun h => (⟨(HST.out h).1, (HST.out h).2.below hb2⟩ : sa = some ⟨g, 0, none⟩ ∧ St len len V R L g w2))
  have HSS := hid hss
  clear hss HST C4 C5
  have e42 := b42 id settled sa sb len m cc cd
  have e43 := st42 id settled sa sb len m cc cd
  simp only [store_shut] at e43
  go_upto_region 4 with fail
  clear e42 e43
  have e44 := ld42 id settled sa sb len m cc cd w2
  simp only [load_shut] at e44
  go_cut [9, 10] (fun q ev w4 => q = .pointer (some ⟨w2.heap.size, 0, none⟩) ∧ Below (w2.heap.size + 1) (w2.alloc (.cells (Rd id settled sa sb len m cc cd) 42)) w4 ∧ ((len = 0 ∧ m = 0 ∧ ev = .nilIface) ∨
      ((0 < len ∨ 0 < m) ∧ ∃ p, ev = .iface 48 (.pointer (some ⟨p, 0, none⟩)) ∧ w4.cell? ⟨p, 0, none⟩ = some (.slice sa len cc) ∧ w4.cell? ⟨p, 1, none⟩ = some (.slice sb m cd))))
  case first =>
    go_wp2_with fail
    refine (incomplete_any id settled sa sb len m cc cd (w2.alloc (.cells (Rd id settled sa sb len m cc cd) 42)) hlen).mono ?_
    rintro e w4 ⟨hb4, hr⟩
    rw [World.size_alloc] at hb4
    clear e44
    rcases hr with ⟨h1, h2, rfl⟩ | ⟨h, p, rfl, h3⟩
    · have HB4 := hid hb4
      have HH := hid (And.intro h1 h2)
      clear hb4 h1 h2
      go_wp2_with fail
      go_meet
      exact ⟨rfl, HB4.out, .inl ⟨HH.out.1, HH.out.2, rfl⟩⟩
    · have HB4 := hid hb4
      have HH := hid h
      have H3 := hid h3
      clear hb4 h h3
      go_wp2_with fail
      go_meet
      exact ⟨rfl, HB4.out, .inr ⟨HH.out, p, rfl, H3.out⟩⟩
  case rest =>
  obtain ⟨rfl, hb4', hr⟩ := hcut
  have HER := hid hr
  generalize hw4 : wc = w4 at *
  have bel3 : Below w2.heap.size w2 (w2.alloc (.cells (Rd id settled sa sb len m cc cd) 42)) := (Below.refl _ _).alloc (Nat.le_refl _) _
  have hb4 : Below (w2.alloc (.cells (Rd id settled sa sb len m cc cd) 42)).heap.size (w2.alloc (.cells (Rd id settled sa sb len m cc cd) 42)) w4 := by rw [World.size_alloc]; exact hb4'
  have r0 : w4.cell? ⟨w2.heap.size, 0, none⟩ = some (.string id) := cell_later hb4 (by simp)
  have r29 : w4.cell? ⟨w2.heap.size, 29, none⟩ = some (.bool settled) := cell_later hb4 (by simp)
  have r30 : w4.cell? ⟨w2.heap.size, 30, none⟩ = some (.slice sa len cc) := cell_later hb4 (by simp)
  have r31 : w4.cell? ⟨w2.heap.size, 31, none⟩ = some (.slice sb m cd) := cell_later hb4 (by simp)
  have hb24 : Below w2.heap.size w2 w4 := bel3.trans (hb4.mono (by simp))
  have hb04 : Below w.heap.size w w4 := hb02.trans (hb24.mono hb02.size)
  have HST4 := hid (fun h => (⟨(HST2.out h).1, (HST2.out h).2.below hb24⟩ : sa = some ⟨g, 0, none⟩ ∧ St len len V R L g w4))
  have HSS4 := hid (fun q => (⟨(HSS.out q).1, (HSS.out q).2.below hb24⟩ : sb = some ⟨h, 0, none⟩ ∧ Ss m m S h w4))
  have C7 : Hid (∀ wx : World, Below w4.heap.size w4 wx → Calls Yba.prog 7 #[.slice a0 len cap, .slice sa len cc] wx fun e w' => e = .returned (.bool true) ∧ Below wx.heap.size wx w') := fun wx bx =>
    refseq_same a0 sa b off len cap cc g V R L wx (by omega) HA.out hsa (fun j hj => cell_later bx (cell_later hb04 (H0.out j hj))) (fun j hj => cell_later bx (cell_later hb04 (H1.out j hj))) (fun j hj => cell_later bx (cell_later hb04 (H2.out j hj)))
      (fun h => ⟨(HST4.out h).1, (HST4.out h).2.below bx⟩)
  have C8 : Hid (∀ wx : World, Below w4.heap.size w4 wx → Calls Yba.prog 8 #[.slice f0 m fc, .slice sb m cd] wx fun e w' => e = .returned (.bool true) ∧ Below wx.heap.size wx w') := fun wx bx =>
    strseq_same f0 sb fb fo m fc cd h S wx (by omega) HF.out hsb (fun j hj => cell_later bx (cell_later hb04 (HS.out j hj)))
      (fun q => ⟨(HSS4.out q).1, (HSS4.out q).2.below bx⟩)
  clear hr e44 bel3 hb4 hb4' hw4 hb24 HST2 HSS HST4 HSS4 H0 H1 H2 HS HA HF HN0 HM0 hb02 hb2 hb1
  go_wp2_with fail
  refine (C7.out w4 (Below.refl _ _)).mono ?_
  rintro e w5 ⟨rfl, hb5⟩
  have r31' := cell_later hb5 r31
  have HB5 := hid hb5
  go_wp2_with fail
  refine (C8.out w5 HB5.out).mono ?_
  rintro e w6 ⟨rfl, hb6⟩
  have hb46 : Below w4.heap.size w4 w6 := HB5.out.trans (hb6.mono HB5.out.size)
  have r0' := cell_later hb46 r0
  have r29' := cell_later hb46 r29
  have n0 : (id.toList != id.toList) = false := by simp
  have n1 : (settled != settled) = false := by simp
  clear r31' HB5 hb5 hb6 r0 r29 r30 r31
  have hb06 : Below w.heap.size w w6 := hb04.trans (hb46.mono hb04.size)
  rcases HER.out with ⟨rfl, rfl, rfl⟩ | ⟨hpos, p, rfl, p0, p1⟩
  · clear HER C7 C8
    go_wp2_with fail
    go_ret
    exact ⟨rfl, hb06⟩
  · have p0' := cell_later hb46 p0
    have p1' := cell_later hb46 p1
    clear HER p0 p1
    have T48 : ∀ (v : Value) (w : World), (Instr.typeAssert (.iface 48 v) 44 48 true).run Yba.prog w = .ok (.tuple #[v, .bool true]) w := fun v w => by kernel_rfl
    by_cases hl0 : len = 0
    · subst hl0
      have hm0 : ¬ (m : Int) = 0 := by omega
      go_wp2_with fail
      refine (C7.out w6 hb46).mono ?_
      rintro e w7 ⟨rfl, hb7⟩
      have p1'' := cell_later hb7 p1'
      have HB7 := hid hb7
      have hb47 : Below w4.heap.size w4 w7 := hb46.trans (hb7.mono hb46.size)
      clear hb7
      go_wp2_with fail
      refine (C8.out w7 hb47).mono ?_
      rintro e w8 ⟨rfl, hb8⟩
      have HB8 := hid hb8
      clear hb8
      go_wp2_with fail
      go_ret
      exact ⟨rfl, hb06.trans ((HB7.out.trans (HB8.out.mono HB7.out.size)).mono hb06.size)⟩
    · have hl0' : ¬ (len : Int) = 0 := by omega
      go_wp2_with fail
      refine (C7.out w6 hb46).mono ?_
      rintro e w7 ⟨rfl, hb7⟩
      have p1'' := cell_later hb7 p1'
      have HB7 := hid hb7
      have hb47 : Below w4.heap.size w4 w7 := hb46.trans (hb7.mono hb46.size)
      clear hb7
      go_wp2_with fail
      refine (C8.out w7 hb47).mono ?_
      rintro e w8 ⟨rfl, hb8⟩
      have HB8 := hid hb8
      clear hb8
      go_wp2_with fail
      go_ret
      exact ⟨rfl, hb06.trans ((HB7.out.trans (HB8.out.mono HB7.out.size)).mono hb06.size)⟩

end Go.Proofs.Ybulkeuaa
