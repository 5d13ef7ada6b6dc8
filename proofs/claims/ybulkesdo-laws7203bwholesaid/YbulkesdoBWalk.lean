import Derived.Test.YbulkesdoBParts
import Derived.Deep.RegionHeld3
import Derived.Deep.DrawnRows
import Derived.Deep.QuietTactic
import Derived.BigQuiet
namespace Go.Proofs.Ybulkesdo
open Go.RowKit Go.Lib
attribute [local go_sem ↓] Go.wp_at_zero Go.wp_at_succ

theorem Yba.info31 : (Yba.prog.info? 31).map (fun i => (i.zero, i.size, i.bytes)) = some (some (.agg #[.string ByteArray.empty, .slice none 0 0]), 2, 40) := by kernel_rfl

theorem make_pairs (len : Nat) (hlen : len ≤ 1048576) : ∃ Z : Array Value, Z.size = len * 2 ∧ ∀ w : World, (Instr.makeSlice 24 (.int .i64 len) (.int .i64 len)).run Yba.prog w = .ok (.slice (some ⟨w.heap.size, 0, none⟩) len len) (w.alloc (.cells Z 31)) := by
  obtain ⟨i0, hi, hz0, hz1, hz2⟩ := info_parts Yba.info31
  refine ⟨madeCells (Value.agg #[.string ByteArray.empty, .slice none 0 0]).cells (len * 2), size_madeCells _ _, fun w => ?_⟩
  have := run_make (P := Yba.prog) w 24 31 i0 _ Yba.underlying24 hi hz0 .i64 .i64 len len (by omega) (Int.le_refl _) (by rw [hz2]; omega) (by omega)
  rw [this, hz1]
  simp

theorem same_addr (a : Addr) (w : World) : (sameAddr a a).run Yba.prog w = .ok true w := by simp [sameAddr]
theorem eq_self (d : Nat) (a : Addr) (w : World) : (Op.equalIn (d + 1) 35 (.pointer (some a)) (.pointer (some a))).run Yba.prog w = .ok true w := by
  obtain ⟨i0, hi, hz0, hz1, hz2⟩ := info_parts Yba.info5
  simp [Op.equalIn, run_underlying Yba.underlying35, sizeOf, typeInfo, hi, same_addr]
theorem neq_self (a : Addr) (w : World) : (binOp .neq 35 (.pointer (some a)) (.pointer (some a))).run Yba.prog w = .ok (.bool false) w := by
  simp only [binOp]
  have := eq_self 9999 a w
  simp [Op.equal, Op.maxDepth, this]

set_option maxHeartbeats 1000000 in
set_option maxRecDepth 100000 in
theorem law_walk (a0 : Option Addr) (b off len cap : Nat) (name : ByteArray) (w : World) (S : Nat → ByteArray) (p : Nat → Option Addr) (m c : Nat → Nat) (xs : Nat → List Int)
    (hm0 : m len = 0) (ha : 0 < len → a0 = some ⟨b, off, none⟩) (hlen : len ≤ 1048576)
    (hS : ∀ j, j < len → w.cell? ⟨b, off + j * 2, none⟩ = some (.string (S j)))
    (hV : ∀ j, j < len → w.cell? ⟨b, off + j * 2 + 1, none⟩ = some (.slice (p j) (m j) (c j)))
    (hB : ∀ j, j < len → Src w (p j) (m j) (xs j)) :
    Calls Yba.prog 3 #[.slice a0 len cap, .string name] w fun e w' => e = .returned (.bool true) ∧ Below w.heap.size w w' := by
  have hl : ¬ ((1048576 : Int) < (len : Int)) := by omega
  obtain ⟨Z, hZ, hmk⟩ := make_pairs len hlen
  have HZ : Hid (Z.size = len * 2) := hZ
  have HM : Hid (m len = 0) := hm0
  clear hZ
  have hA : Hid (0 < len → a0 = some ⟨b, off, none⟩) := ha
  have HS : Hid (∀ j, j < len → w.cell? ⟨b, off + j * 2, none⟩ = some (.string (S j))) := hS
  have HV : Hid (∀ j, j < len → w.cell? ⟨b, off + j * 2 + 1, none⟩ = some (.slice (p j) (m j) (c j))) := hV
  have HB : Hid (∀ j, j < len → Src w (p j) (m j) (xs j)) := hB
  clear ha hS hV hB hm0
  go_enter Yba.func3, Yba.ntmps3
  go_wp2
  go_loopw [7] (fun i wr => ∃ k : Nat, k ≤ len ∧ i = .int .i64 k ∧ Below w.heap.size w wr ∧ Filled (w.heap.size + 2) len k S p m xs w.heap.size wr ∧ Filled (w.heap.size + 2) len k S p m xs (w.heap.size + 1) wr) (fun i _ => len - (intOf i).toNat)
  case atStart => exact ⟨0, Nat.zero_le _, rfl, ((Below.refl _ _).alloc (Nat.le_refl _) _).alloc (by simp) _, Filled.start0 w Z HZ.out, Filled.start1 w Z HZ.out⟩
  case round =>
    obtain ⟨k, hk, rfl, hb, ho, hs⟩ := hrel
    by_cases hkl : k < len
    · have hkl' : (k : Int) < (len : Int) := by omega
      have hk0 : (0 : Int) ≤ (k : Int) := by omega
      obtain rfl := hA.out (by omega)
      have hbN : b < w.heap.size := World.block_lt_of_cell? w _ (HS.out k hkl)
      have hb1 : b ≠ w.heap.size := by omega
      have hb2 : b ≠ w.heap.size + 1 := by omega
      have s0 : wr.cell? ⟨b, off + k * 2, none⟩ = some (.string (S k)) := (hb.cell (p := ⟨b, off + k * 2, none⟩) hbN).trans (HS.out k hkl)
      have s1 : wr.cell? ⟨b, off + k * 2 + 1, none⟩ = some (.slice (p k) (m k) (c k)) := (hb.cell (p := ⟨b, off + k * 2 + 1, none⟩) hbN).trans (HV.out k hkl)
      go_wp2
      have sx : Src wr (p k) (m k) (xs k) := (HB.out k hkl).below hb
      go_region_held3 (fun w' => w'.cell? ⟨b, off + k * 2, none⟩ = some (.string (S k)) ∧ w'.cell? ⟨b, off + k * 2 + 1, none⟩ = some (.slice (p k) (m k) (c k))) (first | go_keep | (refine ⟨?_, ?_⟩ <;> (rw [far _ hb1, far _ hb1]; assumption)))
        (first | (go_at_call 5; refine (clone_any _ _ _ (xs k) _ ?_).mono ?_; (exact sx); rintro e w1 ⟨q, d, rfl, hnew, hnil, hbel⟩; have hbel' : Below wr.heap.size wr w1 := undrew hbel; have t0 := (hbel'.cell (p := ⟨b, off + k * 2, none⟩) (by have := hb.size; show b < _; omega)).trans s0; have t1 := (hbel'.cell (p := ⟨b, off + k * 2 + 1, none⟩) (by have := hb.size; show b < _; omega)).trans s1; obtain ⟨⟨v0, e0⟩, ⟨v1, e1⟩, f0, f1⟩ := (ho.below hbel').room hkl))
      generalize hW : ((w1.setCell ⟨w.heap.size, k * 2, none⟩ (.string (S k))).setCell ⟨w.heap.size, k * 2 + 1, none⟩ (.slice q (m k) d)) = w2
      have ho1 := ho.below hbel'
      have hs1 := hs.below hbel'
      have hsz := hb.size
      have hso := hs.lt
      have ho2 : Filled (w.heap.size + 2) len (k + 1) S p m xs w.heap.size w2 := by rw [← hW]; exact ho1.step (by omega) q d hnil (hnew.low (by show _ ≤ wr.heap.size; omega)) hkl
      have hs2 : Filled (w.heap.size + 2) len k S p m xs (w.heap.size + 1) w2 := by rw [← hW]; exact hs1.other (by omega) (by omega) _ _ _ _
      have hb' : Below w.heap.size w w2 := by rw [← hW]; exact ((hb.trans (hbel'.mono hsz)).setCell (Nat.le_refl _) _).setCell (Nat.le_refl _) _
      clear hW ho1 hs1 ho hs hb hbel hbel' hnew hnil e0 e1 f0 f1 t0 t1 sx s0 s1 hsz hso
      have s0 : w2.cell? ⟨b, off + k * 2, none⟩ = some (.string (S k)) := (hb'.cell (p := ⟨b, off + k * 2, none⟩) hbN).trans (HS.out k hkl)
      have s1 : w2.cell? ⟨b, off + k * 2 + 1, none⟩ = some (.slice (p k) (m k) (c k)) := (hb'.cell (p := ⟨b, off + k * 2 + 1, none⟩) hbN).trans (HV.out k hkl)
      have sx : Src w2 (p k) (m k) (xs k) := (HB.out k hkl).below hb'
      go_wp2
      go_region_held3 (fun w' => w'.cell? ⟨b, off + k * 2, none⟩ = some (.string (S k)) ∧ w'.cell? ⟨b, off + k * 2 + 1, none⟩ = some (.slice (p k) (m k) (c k))) (first | go_keep | (refine ⟨?_, ?_⟩ <;> (rw [far _ hb2, far _ hb2]; assumption)))
        (first | (go_at_call 5; refine (clone_any _ _ _ (xs k) _ ?_).mono ?_; (exact sx); rintro e w3 ⟨q2, d2, rfl, hnew, hnil, hbel⟩; have hbel' : Below w2.heap.size w2 w3 := undrew hbel; have t0 := (hbel'.cell (p := ⟨b, off + k * 2, none⟩) (by have := hb'.size; show b < _; omega)).trans s0; have t1 := (hbel'.cell (p := ⟨b, off + k * 2 + 1, none⟩) (by have := hb'.size; show b < _; omega)).trans s1; obtain ⟨⟨v0, e0⟩, ⟨v1, e1⟩, f0, f1⟩ := (hs2.below hbel').room hkl))
      generalize hW : ((w3.setCell ⟨w.heap.size + 1, k * 2, none⟩ (.string (S k))).setCell ⟨w.heap.size + 1, k * 2 + 1, none⟩ (.slice q2 (m k) d2)) = w4
      have ho1 := ho2.below hbel'
      have hs1 := hs2.below hbel'
      have hsz := hb'.size
      have hso := hs2.lt
      have hs4 : Filled (w.heap.size + 2) len (k + 1) S p m xs (w.heap.size + 1) w4 := by rw [← hW]; exact hs1.step (by omega) q2 d2 hnil (hnew.low (by show _ ≤ w2.heap.size; omega)) hkl
      have ho4 : Filled (w.heap.size + 2) len (k + 1) S p m xs w.heap.size w4 := by rw [← hW]; exact ho1.other (by omega) (by omega) _ _ _ _
      have hb4 : Below w.heap.size w w4 := by rw [← hW]; exact ((hb'.trans (hbel'.mono hsz)).setCell (Nat.le_succ _) _).setCell (Nat.le_succ _) _
      clear hW ho1 hs1 ho2 hs2 hb' hbel hbel' hnew hnil e0 e1 f0 f1 t0 t1 sx s0 s1 hsz hso
      go_wp2
      go_roundw
      case rel => exact ⟨k + 1, by omega, by go_num, hb4, ho4, hs4⟩
      case measure => simp [intOf]; omega
    · obtain rfl : k = len := by omega
      have hkl' : ¬ (k : Int) < (k : Int) := by omega
      obtain ⟨i1, hi1, hy, hno⟩ := first_yes (fun j => (S j).toList == name.toList) k
      obtain ⟨q, d, hq0, hd0, hO⟩ := ho.read
      obtain ⟨q', d', hq0', hd0', hS'⟩ := hs.read
      have HG := hid (get_any w.heap.size k k S q m d name wr hlen ho.lt (fun j hj => (hO j hj).1) (fun j hj => (hO j hj).2.1) i1 hi1 hy hno (fun h => by subst h; exact ⟨hq0, HM.out, hd0⟩))
      have HY := hid hy
      have HN := hid hno
      have HQ0 := hid hq0
      have HO := hid hO
      have HS' := hid hS'
      have hNo : w.heap.size < wr.heap.size := ho.lt
      have hNs : w.heap.size + 1 < wr.heap.size := hs.lt
      clear hy hno hq0 hd0 hq0' hd0' hO hS' ho hs hmk HZ hkl hk
      go_wp2_with fail
      refine HG.out.mono ?_
      rintro e w5 ⟨rfl, hb5⟩
      have hb6 : Below w.heap.size w w5 := hb.trans (hb5.mono (by omega))
      have HO5 : Hid (∀ j, j < k → Memb (w.heap.size + 2) w.heap.size w5 j (S j) (q j) (m j) (d j) (xs j) (p j)) := fun j hj => (HO.out j hj).below hb5
      have HS5 : Hid (∀ j, j < k → Memb (w.heap.size + 2) (w.heap.size + 1) w5 j (S j) (q' j) (m j) (d' j) (xs j) (p j)) := fun j hj => (HS'.out j hj).below hb5
      have hsz5 : w.heap.size + 1 < w5.heap.size := by have := hb5.size; omega
      clear HG HO HS' hb5 hb hNo hNs
      go_wp2
      go_loop [10, 11] (fun r i => ∃ (t : Nat) (z : Int), t ≤ k ∧ i = .int .i64 ((t : Int) - 1) ∧ r = .int .i64 z ∧ -1 ≤ z ∧ z < k ∧
          ((z = -1 ∧ ∀ j, t ≤ j → j < k → ((S j).toList == name.toList) = false) ∨ ∃ jr : Nat, z = jr ∧ t ≤ jr ∧ jr < k ∧ ((S jr).toList == name.toList) = true ∧ ∀ j, t ≤ j → j < jr → ((S j).toList == name.toList) = false))
        (fun _ i => (intOf i + 1).toNat)
      case atStart => exact ⟨k, -1, Nat.le_refl _, rfl, rfl, by omega, by omega, .inl ⟨rfl, fun j h1 h2 => absurd h2 (by omega)⟩⟩
      case round =>
        obtain ⟨t, z, ht, rfl, rfl, hz1, hz2, hzz⟩ := hrel
        have HZZ := hid hzz
        clear hzz
        by_cases ht0 : t = 0
        · subst ht0
          have hge : ¬ (0 : Int) ≤ ((0 : Nat) : Int) - 1 := by omega
          have HI : Hid ((i1 < k ∧ z = i1) ∨ (i1 = k ∧ z = -1)) := by
            rcases HZZ.out with ⟨h1, h2⟩ | ⟨jr, h1, h2, h3, h4, h5⟩
            · right
              refine ⟨?_, h1⟩
              by_cases hik : i1 < k
              · have := HY.out hik
                rw [h2 i1 (by omega) hik] at this
                cases this
              · omega
            · left
              have e1 : ¬ jr < i1 := fun h => by have := HN.out jr h; rw [h4] at this; cases this
              have e2 : ¬ i1 < jr := fun h => by have := HY.out (by omega); rw [h5 i1 (by omega) h] at this; cases this
              exact ⟨by omega, by omega⟩
          clear HZZ HN
          go_wp2
          go_loopw [12] (fun i wr2 => ∃ t : Nat, t ≤ k ∧ i = .int .i64 t ∧ Below w5.heap.size w5 wr2) (fun i _ => k - (intOf i).toNat)
          case atStart => exact ⟨0, Nat.zero_le _, rfl, Below.refl _ _⟩
          case round =>
            obtain ⟨t, ht, rfl, hb7⟩ := hrel
            by_cases htk : t < k
            · have htk' : (t : Int) < (k : Int) := by omega
              have ht0 : (0 : Int) ≤ (t : Int) := by omega
              have HO7 := (HO5.out t htk).below hb7
              have HS7 := (HS5.out t htk).below hb7
              have c0 := HO7.1
              have c1 := HO7.2.1
              have c2 := HS7.1
              have c3 := HS7.2.1
              have hsame : ∀ nq, Calls Yba.prog 7 #[.slice (q t) (m t) (d t), .slice (q' t) (m t) (d' t)] (wr.drewN nq) fun e w' => e = .returned (.bool true) ∧ w' = wr.drewN nq :=
                fun nq => same_true (q t) (q' t) (m t) (d t) (d' t) (xs t) _ HO7.2.2.2.bytes HS7.2.2.2.bytes (HO7.2.2.1.trans HS7.2.2.1.symm)
              have HSM := hid hsame
              clear hsame HO7 HS7
              have hd : ((S t).toList != (S t).toList) = false := by simp
              go_wp2
              go_quiet ((go_at_call 7; exact Calls.quiet_of_same (HSM.out _)))
              go_wp2
              go_roundw
              case rel => exact ⟨t + 1, by omega, by go_num, below_drN hb7 _⟩
              case measure => simp [intOf]; omega
            · obtain rfl : t = k := by omega
              have htk' : ¬ (t : Int) < (t : Int) := by omega
              rcases HI.out with ⟨hik, rfl⟩ | ⟨rfl, rfl⟩
              · have hdec : decide (i1 < t) = true := by simpa using hik
                have HO7 := (HO5.out i1 hik).below hb7
                have HS7 := (HS5.out i1 hik).below hb7
                have c1 := HO7.2.1
                have c3 := HS7.2.1
                have hi0 : (0 : Int) ≤ (i1 : Int) := by omega
                have hi2 : (i1 : Int) < (t : Int) := by omega
                have HSM := hid (same_true (q i1) (q' i1) (m i1) (d i1) (d' i1) (xs i1) wr HO7.2.2.2.bytes HS7.2.2.2.bytes (HO7.2.2.1.trans HS7.2.2.1.symm))
                by_cases hm0 : m i1 = 0
                · have hd : decide ((0 : Int) < (m i1 : Int)) = false := by simp; omega
                  have hd2 : decide (0 < m i1) = false := by simp; omega
                  clear HO7 HS7 hm0
                  go_wp2_with (go_at_call 7; refine HSM.out.mono ?_; rintro e w' ⟨rfl, hw⟩; have hw2 := hw.symm; subst hw2)
                  go_quiet (fail)
                  go_wp2
                  go_ret
                  exact ⟨rfl, hb6.trans (below_drN (hb7.mono (show w.heap.size ≤ w5.heap.size by omega)) _)⟩
                · have hd : (0 : Int) < (m i1 : Int) := by omega
                  have hd2 : 0 < m i1 := by omega
                  obtain ⟨B, hB, hqB, _⟩ := HO7.2.2.2.2 (by omega)
                  rw [hqB] at c1 HSM
                  rw [hqB]
                  have hns := neq_self ⟨B, 0, none⟩
                  clear HO7 HS7 hm0 hqB
                  go_wp2_with (go_at_call 7; refine HSM.out.mono ?_; rintro e w' ⟨rfl, hw⟩; have hw2 := hw.symm; subst hw2)
                  go_quiet (fail)
                  go_wp2
                  go_ret
                  exact ⟨rfl, hb6.trans (below_drN (hb7.mono (show w.heap.size ≤ w5.heap.size by omega)) _)⟩
              · have hq0 := HQ0.out
                have q29 : ∀ (w : World) (a : Option Addr) (n c n' c' : Nat), (binOp .eql 29 (.slice a n c) (.slice none n' c')).run Yba.prog w = .ok (.bool a.isNone) w := fun w a n c n' c' => Lib.run_eql_slice_nil w _ _ a n c n' c' Yba.underlying29
                go_wp2
                go_ret
                exact ⟨by simp, hb6.trans (hb7.mono (by omega))⟩
        · obtain ⟨t, rfl⟩ : ∃ t', t = t' + 1 := ⟨t - 1, by omega⟩
          obtain rfl := hA.out (by omega)
          have hbN : b < w.heap.size := World.block_lt_of_cell? w _ (HS.out t (by omega))
          have s0 : w5.cell? ⟨b, off + t * 2, none⟩ = some (.string (S t)) := (hb6.cell (p := ⟨b, off + t * 2, none⟩) hbN).trans (HS.out t (by omega))
          rw [show (((t + 1 : Nat) : Int) - 1) = (t : Int) from by omega]
          by_cases hm : ((S t).toList == name.toList) = true
          · go_wp2
            go_round
            case rel => exact ⟨t, (t : Int), by omega, rfl, rfl, by omega, by omega, .inr ⟨t, rfl, Nat.le_refl _, by omega, hm, fun j h1 h2 => absurd h2 (by omega)⟩⟩
            case measure => simp [intOf]
          · have hm' : ((S t).toList == name.toList) = false := by simpa using hm
            clear hm
            go_wp2
            go_round
            case rel =>
              refine ⟨t, z, by omega, rfl, rfl, hz1, hz2, ?_⟩
              rcases HZZ.out with ⟨h1, h2⟩ | ⟨jr, h1, h2, h3, h4, h5⟩
              · refine .inl ⟨h1, fun j g1 g2 => ?_⟩
                by_cases hjt : j = t
                · subst hjt; exact hm'
                · exact h2 j (by omega) g2
              · refine .inr ⟨jr, h1, by omega, h3, h4, fun j g1 g2 => ?_⟩
                by_cases hjt : j = t
                · subst hjt; exact hm'
                · exact h5 j (by omega) g2
            case measure => simp [intOf]

end Go.Proofs.Ybulkesdo
