/-
  LawS7280BWhole: the contracts of what it calls: zzs7280bid (5), zzs7280bjudge (6), checkContact (10), checkContacts (7).
-/
import Derived.Test.YbulkettaFmtErrorf
import Derived.Test.YbulkettaFmtBMap
import Derived.Deep.RegionHeld3
import Derived.Deep.DrawnRows
import Derived.Deep.QuietTactic
import Derived.BigQuiet
import Derived.Deep.DeepCutAuto
import Derived.Deep.CutBlock
namespace Go.Proofs.YbulkettaFmt.B
open Go.RowKit Go.Extern.Stop Go.Stop Go.Extern Go.Maps
attribute [local go_sem ↓] Go.wp_at_zero Go.wp_at_succ

theorem hid {P : Prop} (h : P) : Hid P := h

/-- The table of ids. -/
def idS : Nat → ByteArray
  | 0 => ⟨#[]⟩
  | 1 => ⟨#[99, 49]⟩
  | 2 => ⟨#[99, 50]⟩
  | _ => ⟨#[99, 51]⟩

/-- 0 accepted, 1 not found, 2 another's. -/
def judge (fd ow : Nat → Bool) (j : Nat) : Nat := if fd j then (if ow j then 0 else 2) else 1

set_option maxHeartbeats 400000 in
theorem id_any (x : Int) (w : World) (h0 : 0 ≤ x) (h1 : x ≤ 255) : Calls Ybaf.prog 5 #[.int .u8 x] w fun e w' => e = .returned (.string (idS (x % 4).toNat)) ∧ w' = w := by
  have hc : x % 4 = 0 ∨ x % 4 = 1 ∨ x % 4 = 2 ∨ x % 4 = 3 := by omega
  rcases hc with h | h | h | h
  all_goals
    rw [h]
    go_enter Ybaf.func5, Ybaf.ntmps5
    go_wp2
    go_ret
    trivial

set_option maxHeartbeats 400000 in
theorem judge_any (fd ow : Nat → Bool) (j : Nat) (hj : j < 4) (w : World) :
    Calls Ybaf.prog 6 #[.agg #[.bool (fd 0), .bool (fd 1), .bool (fd 2), .bool (fd 3)], .agg #[.bool (ow 0), .bool (ow 1), .bool (ow 2), .bool (ow 3)], .int .i64 (j : Int)] w
      fun e w' => e = .returned (.int .i64 (judge fd ow j : Nat)) ∧ Below w.heap.size w w' := by
  match j, hj with
  | 0, _ =>
    cases hf : fd 0 <;> cases ho : ow 0 <;>
    · go_enter Ybaf.func6, Ybaf.ntmps6
      go_wp2
      go_ret
      exact ⟨by simp [judge, hf, ho], ((Below.refl _ _).alloc (Nat.le_refl _) _).alloc (by simp) _⟩
  | 1, _ =>
    cases hf : fd 1 <;> cases ho : ow 1 <;>
    · go_enter Ybaf.func6, Ybaf.ntmps6
      go_wp2
      go_ret
      exact ⟨by simp [judge, hf, ho], ((Below.refl _ _).alloc (Nat.le_refl _) _).alloc (by simp) _⟩
  | 2, _ =>
    cases hf : fd 2 <;> cases ho : ow 2 <;>
    · go_enter Ybaf.func6, Ybaf.ntmps6
      go_wp2
      go_ret
      exact ⟨by simp [judge, hf, ho], ((Below.refl _ _).alloc (Nat.le_refl _) _).alloc (by simp) _⟩
  | 3, _ =>
    cases hf : fd 3 <;> cases ho : ow 3 <;>
    · go_enter Ybaf.func6, Ybaf.ntmps6
      go_wp2
      go_ret
      exact ⟨by simp [judge, hf, ho], ((Below.refl _ _).alloc (Nat.le_refl _) _).alloc (by simp) _⟩

theorem keyed : Keyed Ybaf.prog 9 := string_keyed Ybaf.underlying9
theorem key_id (j : Nat) : ∃ l, keyOf Ybaf.prog 9 (.string (idS j)) = some l := by
  have hs : (idS j).size ≤ 2 := by unfold idS; split <;> decide
  have hm : (idS j).size ≤ Go.maxLen := Nat.le_trans hs (by decide)
  exact ⟨.string (idS j).data.toList, by simp [keyOf, Ybaf.underlying9, mapKey, hm]⟩
theorem zero45 (w : World) : (zeroValue 45).run Ybaf.prog w = .ok (.pointer none) w := by kernel_rfl

/-- The registry as the calls see it: R the struct's block, M the map's. -/
structure Reg (R M n : Nat) (f : Value → Option Value) (fd ow : Nat → Bool) (pt : Nat → Nat) (reg ot : ByteArray) (w : World) : Prop where
  cell : w.cell? ⟨R, 7, none⟩ = some (.map (some M))
  map : Mp Ybaf.prog 9 w M n f
  val : ∀ j, j < 4 → f (.string (idS j)) = if fd j then some (.pointer (some ⟨pt j, 0, none⟩)) else none
  id : ∀ j, j < 4 → fd j = true → w.cell? ⟨pt j, 0, none⟩ = some (.string (idS j))
  sponsor : ∀ j, j < 4 → fd j = true → w.cell? ⟨pt j, 10, none⟩ = some (.string (if ow j then reg else ot))

theorem cell_later {w w' : World} {a : Addr} {v : Value} (hb : Below w.heap.size w w') (h : w.cell? a = some v) : w'.cell? a = some v :=
  (hb.cell (World.block_lt_of_cell? w _ h)).trans h
theorem Reg.below {R M n : Nat} {f : Value → Option Value} {fd ow : Nat → Bool} {pt : Nat → Nat} {reg ot : ByteArray} {w w' : World} (h : Reg R M n f fd ow pt reg ot w) (hb : Below w.heap.size w w') : Reg R M n f fd ow pt reg ot w' :=
  ⟨cell_later hb h.cell, h.map.below hb, h.val, fun j hj hf => cell_later hb (h.id j hj hf), fun j hj hf => cell_later hb (h.sponsor j hj hf)⟩

/-- The two sentinels. -/
structure Sent (aF aS : Addr) (tF tS : ByteArray) (w : World) : Prop where
  g0 : w.cell? ⟨0, 0, none⟩ = some (.iface 111 (.pointer (some aF)))
  g1 : w.cell? ⟨1, 0, none⟩ = some (.iface 111 (.pointer (some aS)))
  c0 : w.cell? aF = some (.string tF)
  c1 : w.cell? aS = some (.string tS)
theorem Sent.below {aF aS : Addr} {tF tS : ByteArray} {w w' : World} (h : Sent aF aS tF tS w) (hb : Below w.heap.size w w') : Sent aF aS tF tS w' :=
  ⟨cell_later hb h.g0, cell_later hb h.g1, cell_later hb h.c0, cell_later hb h.c1⟩

/-- What a check hands back: of code 0 nil, of code 1 a wrap of the first sentinel, of code 2 a wrap of the second. -/
def Err (aF aS : Addr) (c : Nat) (ev : Value) (w : World) : Prop :=
  (c = 0 ∧ ev = .nilIface) ∨ (c = 1 ∧ ∃ pb T, ev = .iface 110 (.pointer (some ⟨pb, 0, none⟩)) ∧ w.heap[pb]? = some (.cells #[.string T, .iface 111 (.pointer (some aF))] 176 (0, 0))) ∨
    (c = 2 ∧ ∃ pb T, ev = .iface 110 (.pointer (some ⟨pb, 0, none⟩)) ∧ w.heap[pb]? = some (.cells #[.string T, .iface 111 (.pointer (some aS))] 176 (0, 0)))

set_option maxHeartbeats 1000000 in
set_option maxRecDepth 100000 in
theorem contact_any (F : Interp) {aF aS : Addr} {tF tS : ByteArray} {R M n : Nat} {f : Value → Option Value} {fd ow : Nat → Bool} {pt : Nat → Nat} {reg ot : ByteArray} (role : ByteArray) (j : Nat) (hj : j < 4) (w : World)
    (hF : F.answers w.tape) (hs : Sent aF aS tF tS w) (hr : Reg R M n f fd ow pt reg ot w) (hot : (ot.toList == reg.toList) = false) :
    Calls Ybaf.prog 10 #[.pointer (some ⟨R, 0, none⟩), .string reg, .string role, .string (idS j)] w fun e w' => ∃ ev, e = .returned ev ∧ Below w.heap.size w w' ∧ Err aF aS (judge fd ow j) ev w' := by
  obtain ⟨l, hl⟩ := key_id j
  have hlook := hr.map.look keyed Ybaf.underlying25 (zero45 w) hl true
  rw [hr.val j hj] at hlook
  have hc := hr.cell
  have HS := hid hs
  have HR := hid hr
  have HF := hid hF
  clear hr hs hl hF
  cases hf : fd j
  · rw [hf] at hlook
    simp at hlook
    have g0 := HS.out.g0
    go_enter Ybaf.func10, Ybaf.ntmps10
    go_wp2_with fail
    have bel1 : Below w.heap.size w (w.alloc (.cells #[.iface 9 (.string role), .iface 9 (.string (idS j)), .iface 111 (.pointer (some aF))] 20)) := (Below.refl _ _).alloc (Nat.le_refl _) _
    refine (errorf_B F w.heap.size aF role (idS j) tF _ (by rw [bel1.tape]; exact HF.out) (by simp) (by simp) (by simp) (cell_later bel1 HS.out.c0)).mono ?_
    rintro e w2 ⟨rfl, ⟨T, hT⟩, hb2⟩
    have HT := hid hT
    have hb02 : Below w.heap.size w w2 := bel1.trans (hb2.mono bel1.size)
    clear hT hb2 bel1
    go_wp2_with fail
    go_ret
    exact ⟨_, rfl, hb02, .inr (.inl ⟨by simp [judge, hf], _, T, rfl, by simpa using HT.out⟩)⟩
  · rw [hf] at hlook
    simp at hlook
    have c10 := HR.out.sponsor j hj hf
    cases ho : ow j
    · rw [ho] at c10
      simp at c10
      have g1 := HS.out.g1
      go_enter Ybaf.func10, Ybaf.ntmps10
      go_wp2_with fail
      have bel1 : Below w.heap.size w (w.alloc (.cells #[.iface 9 (.string role), .iface 9 (.string (idS j)), .iface 111 (.pointer (some aS))] 20)) := (Below.refl _ _).alloc (Nat.le_refl _) _
      refine (errorf_B F w.heap.size aS role (idS j) tS _ (by rw [bel1.tape]; exact HF.out) (by simp) (by simp) (by simp) (cell_later bel1 HS.out.c1)).mono ?_
      rintro e w2 ⟨rfl, ⟨T, hT⟩, hb2⟩
      have HT := hid hT
      have hb02 : Below w.heap.size w w2 := bel1.trans (hb2.mono bel1.size)
      clear hT hb2 bel1
      go_wp2_with fail
      go_ret
      exact ⟨_, rfl, hb02, .inr (.inr ⟨by simp [judge, hf, ho], _, T, rfl, by simpa using HT.out⟩)⟩
    · rw [ho] at c10
      simp at c10
      go_enter Ybaf.func10, Ybaf.ntmps10
      go_wp2_with fail
      go_ret
      exact ⟨_, rfl, Below.refl _ _, .inl ⟨by simp [judge, hf, ho], rfl⟩⟩

/-- The first code that is not 0, from the first code on. -/
def firstCode (c0 : Nat) (g : Nat → Nat) : Nat → Nat
  | 0 => c0
  | i + 1 => if firstCode c0 g i = 0 then g i else firstCode c0 g i
theorem firstCode_succ (c0 : Nat) (g : Nat → Nat) (i : Nat) : firstCode c0 g (i + 1) = if firstCode c0 g i = 0 then g i else firstCode c0 g i := rfl
theorem firstCode_stays {c0 : Nat} {g : Nat → Nat} {i : Nat} (h : firstCode c0 g i ≠ 0) : ∀ m, i ≤ m → firstCode c0 g m = firstCode c0 g i := by
  intro m hm
  induction m with
  | zero => obtain rfl : i = 0 := by omega
            rfl
  | succ m ih =>
    by_cases him : i = m + 1
    · rw [him]
    · rw [firstCode_succ, ih (by omega), if_neg h]

set_option maxHeartbeats 2000000 in
theorem contacts_any (F : Interp) {aF aS : Addr} {tF tS : ByteArray} {R M n : Nat} {f : Value → Option Value} {fd ow : Nat → Bool} {pt : Nat → Nat} {reg ot : ByteArray} (j0 : Nat) (hj0 : j0 < 4)
    (sa : Option Addr) (g m c : Nat) (Ty : Nat → ByteArray) (q : Nat → Nat) (hm : m ≤ 1048576) (ha : 0 < m → sa = some ⟨g, 0, none⟩) (hq : ∀ i, i < m → q i < 4) (w : World)
    (h0 : ∀ i, i < m → w.cell? ⟨g, i * 2, none⟩ = some (.string (Ty i))) (h1 : ∀ i, i < m → w.cell? ⟨g, i * 2 + 1, none⟩ = some (.string (idS (q i))))
    (hF : F.answers w.tape) (hs : Sent aF aS tF tS w) (hr : Reg R M n f fd ow pt reg ot w) (hot : (ot.toList == reg.toList) = false) :
    Calls Ybaf.prog 7 #[.pointer (some ⟨R, 0, none⟩), .string reg, .string (idS j0), .slice sa m c] w fun e w' => ∃ ev, e = .returned ev ∧ Below w.heap.size w w' ∧ Err aF aS (firstCode (if j0 = 0 then 0 else judge fd ow j0) (fun i => judge fd ow (q i)) m) ev w' := by
  have HA := hid ha
  have HQ := hid hq
  have H0 := hid h0
  have H1 := hid h1
  have HF := hid hF
  have HS := hid hs
  have HR := hid hr
  clear ha hq h0 h1 hF hs hr
  go_enter Ybaf.func7, Ybaf.ntmps7
  generalize hc0 : (if j0 = 0 then 0 else judge fd ow j0) = c0
  have HC0 := hid hc0
  clear hc0
  go_upto_if 14 with fail
  go_cut [8] (fun v wx => v = .nilIface ∧ Below w.heap.size w wx ∧ c0 = 0)
  case first =>
    generalize hbb : (idS j0).toList.isEmpty = bb
    cases bb
    case true =>
      have hz : j0 = 0 := by
        have : j0 = 0 ∨ j0 = 1 ∨ j0 = 2 ∨ j0 = 3 := by omega
        rcases this with h | h | h | h
        · exact h
        all_goals
          subst h
          simp [idS, ByteArray.toList, ByteArray.toList.loop, ByteArray.size, ByteArray.get!] at hbb
      clear hbb
      go_wp2_with fail
      go_meet
      exact ⟨rfl, Below.refl _ _, by simpa [hz] using HC0.out.symm⟩
    case false =>
      have hz : j0 ≠ 0 := by
        intro h
        subst h
        simp [idS, ByteArray.toList, ByteArray.toList.loop, ByteArray.size] at hbb
      clear hbb
      have hcode : c0 = judge fd ow j0 := by have := HC0.out; rw [if_neg hz] at this; exact this.symm
      have HK := hid (contact_any F ⟨#[114, 101, 103, 105, 115, 116, 114, 97, 110, 116]⟩ j0 hj0 w HF.out HS.out HR.out hot)
      have HCODE := hid hcode
      clear hcode
      go_wp2_with fail
      refine HK.out.mono ?_
      rintro e w2 ⟨ev, rfl, hb2, her⟩
      have hb2s := hb2.size
      rcases her with ⟨hc, rfl⟩ | ⟨hc, pb, T, rfl, hT⟩ | ⟨hc, pb, T, rfl, hT⟩
      · have HB2 := hid hb2
        have HC := hid hc
        clear hb2 hc
        go_wp2_with fail
        go_meet
        exact ⟨rfl, HB2.out, HCODE.out.trans HC.out⟩
      · have HB2 := hid hb2
        have HC := hid hc
        have HT := hid hT
        clear hb2 hc hT
        go_wp2_with fail
        go_ret
        exact ⟨_, rfl, HB2.out, .inr (.inl ⟨by rw [firstCode_stays (i := 0) (show c0 ≠ 0 by rw [HCODE.out, HC.out]; decide) m (by omega)]; exact HCODE.out.trans HC.out, pb, T, rfl, HT.out⟩)⟩
      · have HB2 := hid hb2
        have HC := hid hc
        have HT := hid hT
        clear hb2 hc hT
        go_wp2_with fail
        go_ret
        exact ⟨_, rfl, HB2.out, .inr (.inr ⟨by rw [firstCode_stays (i := 0) (show c0 ≠ 0 by rw [HCODE.out, HC.out]; decide) m (by omega)]; exact HCODE.out.trans HC.out, pb, T, rfl, HT.out⟩)⟩
  case rest =>
    obtain ⟨rfl, hb, hz⟩ := hcut
    have HB0 := hid hb
    have HZ := hid hz
    clear hb hz HC0
    go_wp2_with fail
    go_loopw [24] (fun i wr => ∃ k : Nat, k ≤ m ∧ i = .int .i64 k ∧ Below w.heap.size w wr ∧ firstCode c0 (fun i => judge fd ow (q i)) k = 0) (fun i _ => m - (intOf i).toNat)
    case atStart => exact ⟨0, Nat.zero_le _, rfl, HB0.out, HZ.out⟩
    case round =>
      obtain ⟨k, hk, rfl, hb, hfc⟩ := hrel
      by_cases hkl : k < m
      · have hkl' : (k : Int) < (m : Int) := by omega
        have hk0 : (0 : Int) ≤ (k : Int) := by omega
        obtain rfl := HA.out (by omega)
        have s0 := cell_later hb (H0.out k hkl)
        have s1 := cell_later hb (H1.out k hkl)
        have bel1 : Below wr.heap.size wr (wr.alloc (.cells #[.string (Ty k), .string (idS (q k))] 68)) := (Below.refl _ _).alloc (Nat.le_refl _) _
        have hb1 : Below w.heap.size w (wr.alloc (.cells #[.string (Ty k), .string (idS (q k))] 68)) := hb.trans (bel1.mono hb.size)
        have HK := hid (contact_any F ⟨#[99, 111, 110, 116, 97, 99, 116]⟩ (q k) (HQ.out k hkl) (wr.alloc (.cells #[.string (Ty k), .string (idS (q k))] 68)) (by rw [hb1.tape]; exact HF.out) (HS.out.below hb1) (HR.out.below hb1) hot)
        have HFC := hid hfc
        clear hfc hb bel1
        go_wp2_with fail
        refine HK.out.mono ?_
        rintro e w2 ⟨ev, rfl, hb2, her⟩
        have HB2 : Hid (Below w.heap.size w w2) := hb1.trans (hb2.mono hb1.size)
        have hstep : firstCode c0 (fun i => judge fd ow (q i)) (k + 1) = judge fd ow (q k) := by rw [firstCode_succ, if_pos HFC.out]
        have HST := hid hstep
        clear hb2 hstep HK hb1 s0 s1
        rcases her with ⟨hc, rfl⟩ | ⟨hc, pb, T, rfl, hT⟩ | ⟨hc, pb, T, rfl, hT⟩
        · have HC := hid hc
          clear hc
          go_wp2_with fail
          go_roundw
          case rel => exact ⟨k + 1, by omega, by go_num, HB2.out, HST.out.trans HC.out⟩
          case measure => simp [intOf]; omega
        · have HC := hid hc
          have HT := hid hT
          clear hc hT
          go_wp2_with fail
          go_ret
          exact ⟨_, rfl, HB2.out, .inr (.inl ⟨by rw [firstCode_stays (i := k + 1) (by rw [HST.out, HC.out]; decide) m (by omega)]; exact HST.out.trans HC.out, pb, T, rfl, HT.out⟩)⟩
        · have HC := hid hc
          have HT := hid hT
          clear hc hT
          go_wp2_with fail
          go_ret
          exact ⟨_, rfl, HB2.out, .inr (.inr ⟨by rw [firstCode_stays (i := k + 1) (by rw [HST.out, HC.out]; decide) m (by omega)]; exact HST.out.trans HC.out, pb, T, rfl, HT.out⟩)⟩
      · obtain rfl : k = m := by omega
        go_wp2_with fail
        go_ret
        exact ⟨_, rfl, hb, .inl ⟨hfc, rfl⟩⟩

end Go.Proofs.YbulkettaFmt.B
