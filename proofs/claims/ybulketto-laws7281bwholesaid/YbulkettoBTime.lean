/-
  LawS7281BWhole: time.Time without a monotonic reading and without a location: the instant N nanoseconds past the zero time. Add, Before, Equal.
-/
import Derived.Test.YbulkettoCPlay
import Derived.Laws.BitsAllLaws
namespace Go.Proofs.Ybulketto.B
open Go.RowKit Go.Maps
open Go.Proofs.Ybulketto.C (hid cell_later cell_row free_row heap_put heap_far)
attribute [local go_sem ↓] Go.wp_at_zero Go.wp_at_succ

theorem and30 (a : Int) (h0 : 0 ≤ a) (h1 : a < 1000000000) : bits .and .u64 a 1073741823 = a := by
  rw [u64_and a _ h0 (by omega) (by decide) (by decide)]
  have : a.toNat &&& (1073741823 : Int).toNat = a.toNat := by
    show a.toNat &&& (2 ^ 30 - 1) = a.toNat
    rw [Nat.and_two_pow_sub_one_eq_mod]
    exact Nat.mod_eq_of_lt (by omega)
  rw [this]
  omega
theorem and63 (a : Int) (h0 : 0 ≤ a) (h1 : a < 1000000000) : bits .and .u64 a 9223372036854775808 = 0 := by
  rw [u64_and a _ h0 (by omega) (by decide) (by decide)]
  have : a.toNat &&& (9223372036854775808 : Int).toNat = 0 := by
    show a.toNat &&& (1 * 2 ^ 63) = 0
    apply Nat.eq_of_testBit_eq
    intro i
    rw [Nat.testBit_and, Nat.zero_testBit]
    by_cases hi : i < 63
    · rw [Nat.testBit_mul_two_pow]
      simp
      omega
    · rw [Nat.testBit_lt_two_pow (x := a.toNat) (i := i) (Nat.lt_of_lt_of_le (show a.toNat < 2 ^ 63 by omega) (Nat.pow_le_pow_right (by decide) (by omega)))]
      rfl
  rw [this]
  rfl
theorem andNot30 (a : Int) (h0 : 0 ≤ a) (h1 : a < 1000000000) : bits .andNot .u64 a 1073741823 = 0 := by
  rw [u64_andNot a _ h0 (by omega) (by decide) (by decide)]
  have : a.toNat &&& (18446744073709551615 - (1073741823 : Int).toNat) = 0 := by
    show a.toNat &&& ((2 ^ 34 - 1) * 2 ^ 30) = 0
    apply Nat.eq_of_testBit_eq
    intro i
    rw [Nat.testBit_and, Nat.zero_testBit]
    by_cases hi : i < 30
    · rw [Nat.testBit_mul_two_pow]
      simp
      omega
    · rw [Nat.testBit_lt_two_pow (x := a.toNat) (i := i) (Nat.lt_of_lt_of_le (show a.toNat < 2 ^ 30 by omega) (Nat.pow_le_pow_right (by decide) (by omega)))]
      rfl
  rw [this]
  rfl
theorem or0 (b : Int) (h0 : 0 ≤ b) (h1 : b < 1000000000) : bits .or .u64 0 b = b := by
  rw [u64_or 0 b (by decide) (by decide) h0 (by omega)]
  simp
  omega

set_option maxHeartbeats 400000 in
set_option maxRecDepth 100000 in
theorem nsec_any (b o : Nat) (a : Int) (w : World) (h0 : 0 ≤ a) (h1 : a < 1000000000) (hc : w.cell? ⟨b, o, none⟩ = some (.int .u64 a)) :
    Calls Yba.prog 32 #[.pointer (some ⟨b, o, none⟩)] w fun e w' => e = .returned (.int .i32 a) ∧ w' = w := by
  have hb := and30 a h0 h1
  have hw : wrap32 a = a := by unfold wrap32; omega
  go_enter Yba.func32, Yba.ntmps32
  go_wp2
  go_ret
  exact ⟨by first | rfl | simp [hb, hw], rfl⟩

set_option maxHeartbeats 400000 in
set_option maxRecDepth 100000 in
theorem sec_any (b o : Nat) (a s : Int) (w : World) (h0 : 0 ≤ a) (h1 : a < 1000000000) (hc : w.cell? ⟨b, o, none⟩ = some (.int .u64 a)) (hs : w.cell? ⟨b, o + 1, none⟩ = some (.int .i64 s)) :
    Calls Yba.prog 35 #[.pointer (some ⟨b, o, none⟩)] w fun e w' => e = .returned (.int .i64 s) ∧ w' = w := by
  have hb := and63 a h0 h1
  have hb' : (bits .and .u64 a 9223372036854775808 != 0) = false := by rw [hb]; rfl
  go_enter Yba.func35, Yba.ntmps35
  go_wp2
  go_ret
  exact ⟨rfl, rfl⟩

set_option maxHeartbeats 400000 in
set_option maxRecDepth 100000 in
theorem addSec_any (b o : Nat) (a s q : Int) (w : World) (h0 : 0 ≤ a) (h1 : a < 1000000000) (hr : -9223372036854775808 ≤ s + q ∧ s + q ≤ 9223372036854775807) (hc : w.cell? ⟨b, o, none⟩ = some (.int .u64 a)) (hs : w.cell? ⟨b, o + 1, none⟩ = some (.int .i64 s)) (hz : w.frozen? ⟨b, o + 1, none⟩ = false) :
    Calls Yba.prog 33 #[.pointer (some ⟨b, o, none⟩), .int .i64 q] w fun e w' => e = .returned (.tuple #[]) ∧ w' = w.setCell ⟨b, o + 1, none⟩ (.int .i64 (s + q)) := by
  have hb := and63 a h0 h1
  have hb' : (bits .and .u64 a 9223372036854775808 != 0) = false := by rw [hb]; rfl
  have hw : wrap64 (s + q) = s + q := by unfold wrap64; omega
  by_cases hq : 0 < q
  · have h2 : s < s + q := by omega
    go_enter Yba.func33, Yba.ntmps33
    go_wp2
    go_end0
    exact ⟨rfl, rfl⟩
  · have h2 : ¬ s < s + q := by omega
    go_enter Yba.func33, Yba.ntmps33
    go_wp2
    go_end0
    exact ⟨rfl, rfl⟩

/-- The instant N nanoseconds past the zero time. -/
abbrev tv (N : Int) : Array Value := #[.int .u64 (N % 1000000000), .int .i64 (N / 1000000000), .pointer none]

/-- The nanoseconds behind an addition, and the seconds. -/
theorem add_parts (d : Int) : ∃ q r : Int, d.tdiv 1000000000 = q ∧ d.tmod 1000000000 = r ∧ d = 1000000000 * q + r ∧ -1000000000 < r ∧ r < 1000000000 := by
  refine ⟨_, _, rfl, rfl, ?_, ?_, ?_⟩
  · have := Int.mul_tdiv_add_tmod d 1000000000
    omega
  · rcases Int.le_total 0 d with h | h
    · have := Int.tmod_nonneg 1000000000 h
      omega
    · have h1 := Int.tmod_nonneg 1000000000 (show 0 ≤ -d by omega)
      have h2 := Int.tmod_lt_of_pos (-d) (show (0 : Int) < 1000000000 by decide)
      rw [Int.neg_tmod] at h1 h2
      omega
  · exact Int.tmod_lt_of_pos d (by decide)

set_option maxHeartbeats 1000000 in
set_option maxRecDepth 100000 in
theorem add_any (N d : Int) (w : World) (hN : -20000000000000000000 ≤ N ∧ N ≤ 20000000000000000000) (hd : -9223372036854775808 ≤ d ∧ d ≤ 9223372036854775807) :
    Calls Yba.prog 14 #[.agg (tv N), .int .i64 d] w fun e w' => e = .returned (.agg (tv (N + d))) ∧ Below w.heap.size w w' := by
  obtain ⟨q, r, hq, hr, hdq, r0, r1⟩ := add_parts d
  show Calls Yba.prog 14 #[.agg #[.int .u64 (N % 1000000000), .int .i64 (N / 1000000000), .pointer none], .int .i64 d] w _
  generalize ha : N % 1000000000 = a
  generalize hs : N / 1000000000 = s
  have a0 : 0 ≤ a := by omega
  have a1 : a < 1000000000 := by omega
  have hand := andNot30 a a0 a1
  generalize hW2 : (w.alloc (.cells #[.int .u64 a, .int .i64 s, .pointer none] 60)).alloc (.cells #[.int .u64 0, .int .i64 0, .pointer none] 60) = w2
  have b2 : Below w.heap.size w w2 := by rw [← hW2]; exact ((Below.refl _ _).alloc (Nat.le_refl _) _).alloc (by simp) _
  have hrow : w2.heap[w.heap.size]? = some (.cells #[.int .u64 a, .int .i64 s, .pointer none] 60 (0, 0)) := by
    rw [← hW2]; exact (heap_alloc_old _ _ (by simp)).trans (heap_alloc_new w _)
  have hres : w2.heap[w.heap.size + 1]? = some (.cells #[.int .u64 0, .int .i64 0, .pointer none] 60 (0, 0)) := by
    rw [← hW2]
    have := heap_alloc_new (w.alloc (.cells #[.int .u64 a, .int .i64 s, .pointer none] 60)) (.cells #[.int .u64 0, .int .i64 0, .pointer none] 60)
    simpa using this
  generalize hB : w.heap.size = B at *
  have HNS := hid (nsec_any B 0 a w2 a0 a1 (by rw [cell_row hrow]; rfl))
  have c0 : w2.cell? ⟨B, 0, none⟩ = some (.int .u64 a) := by rw [cell_row hrow]; rfl
  have z0 : w2.frozen? ⟨B, 0, none⟩ = false := free_row hrow
  -- what is left behind the additions
  have fin : ∀ (n' q' : Int), 0 ≤ n' → n' < 1000000000 → N + d = 1000000000 * (s + q') + n' → n' = (N + d) % 1000000000 ∧ s + q' = (N + d) / 1000000000 := by
    intro n' q' h1 h2 h3
    omega
  have hwq : wrap64 q = q := by unfold wrap64; omega
  have hw1 : wrap64 (q + 1) = q + 1 := by unfold wrap64; omega
  have hw2 : wrap64 (q - 1) = q - 1 := by unfold wrap64; omega
  have hwr : wrap32 r = r := by unfold wrap32; omega
  have hwar : wrap32 (a + r) = a + r := by unfold wrap32; omega
  -- the seconds and nanoseconds that are stored
  have tail : ∀ (n' q' : Int), 0 ≤ n' → n' < 1000000000 → N + d = 1000000000 * (s + q') + n' → -9223372036854775808 ≤ s + q' ∧ s + q' ≤ 9223372036854775807 →
      Hid (Calls Yba.prog 33 #[.pointer (some ⟨B, 0, none⟩), .int .i64 q'] (w2.setCell ⟨B, 0, none⟩ (.int .u64 n')) fun e w' => e = .returned (.tuple #[]) ∧ w' = (w2.setCell ⟨B, 0, none⟩ (.int .u64 n')).setCell ⟨B, 1, none⟩ (.int .i64 (s + q'))) := by
    intro n' q' h1 h2 h3 h4
    have hrow' := heap_put w2 (j := 0) (.int .u64 n') hrow
    exact addSec_any B 0 n' s q' _ h1 h2 h4 (by rw [cell_row hrow']; rfl) (by rw [cell_row hrow']; rfl) (free_row hrow')
  have HRO := hid hrow
  have HRE := hid hres
  have HB2 := hid b2
  have HFI := hid fin
  have HDQ := hid hdq
  have HA := hid ha
  have HSS := hid hs
  have HWB := hid hB
  have key : ∀ (n' q' : Int), 0 ≤ n' → n' < 1000000000 → N + d = 1000000000 * (s + q') + n' →
      Hid (∀ w4, w4 = (w2.setCell ⟨B, 0, none⟩ (.int .u64 n')).setCell ⟨B, 1, none⟩ (.int .i64 (s + q')) → w4.heap[B]? = some (.cells #[.int .u64 n', .int .i64 (s + q'), .pointer none] 60 (0, 0)) ∧ w4.heap[B + 1]? = some (.cells #[.int .u64 0, .int .i64 0, .pointer none] 60 (0, 0)) ∧ Below B w w4 ∧ tv (N + d) = #[.int .u64 n', .int .i64 (s + q'), .pointer none]) := by
    intro n' q' h1 h2 h3 w4 hw4
    subst hw4
    obtain ⟨e1, e2⟩ := fin n' q' h1 h2 h3
    refine ⟨heap_put _ _ (heap_put w2 _ hrow), (heap_far _ _ (by omega)).trans ((heap_far _ _ (by omega)).trans hres), (b2.setCell (Nat.le_refl _) _).setCell (Nat.le_refl _) _, ?_⟩
    rw [tv, ← e1, ← e2]
  have HTL := hid tail
  have HKY := hid key
  clear hrow hres b2 fin hdq ha hs tail key
  by_cases k1 : 1000000000 ≤ a + r
  · have hn0 : 0 ≤ a + r - 1000000000 := by omega
    have hn1 : a + r - 1000000000 < 1000000000 := by omega
    have hor := or0 (a + r - 1000000000) hn0 hn1
    have hand2 := and63 (a + r - 1000000000) hn0 hn1
    have hand3 : (bits .and .u64 (a + r - 1000000000) 9223372036854775808 != 0) = false := by rw [hand2]; rfl
    have hwn : wrap32 (a + r - 1000000000) = a + r - 1000000000 := by unfold wrap32; omega
    have hsum : N + d = 1000000000 * (s + (q + 1)) + (a + r - 1000000000) := by have := HDQ.out; have := HA.out; have := HSS.out; omega
    have HT := HTL.out (a + r - 1000000000) (q + 1) hn0 hn1 hsum (by have := HSS.out; have := HDQ.out; omega)
    have HK := HKY.out (a + r - 1000000000) (q + 1) hn0 hn1 hsum
    clear hsum HTL HKY
    go_enter Yba.func14, Yba.ntmps14
    go_wp2_with fail
    refine HNS.out.mono ?_
    rintro e w9 ⟨rfl, rfl⟩
    go_wp2_with fail
    refine HT.out.mono ?_
    rintro e w4 ⟨rfl, hw4⟩
    obtain ⟨g1, g2, g3, g4⟩ := HK.out w4 hw4
    have d0 : w4.cell? ⟨B, 0, none⟩ = some (.int .u64 (a + r - 1000000000)) := by rw [cell_row g1]; rfl
    have d1 : w4.cell? ⟨B, 1, none⟩ = some (.int .i64 (s + (q + 1))) := by rw [cell_row g1]; rfl
    have d2 : w4.cell? ⟨B, 2, none⟩ = some (.pointer none) := by rw [cell_row g1]; rfl
    have e0 : w4.cell? ⟨B + 1, 0, none⟩ = some (.int .u64 0) := by rw [cell_row g2]; rfl
    have e1 : w4.cell? ⟨B + 1, 1, none⟩ = some (.int .i64 0) := by rw [cell_row g2]; rfl
    have e2 : w4.cell? ⟨B + 1, 2, none⟩ = some (.pointer none) := by rw [cell_row g2]; rfl
    have f0 : w4.frozen? ⟨B + 1, 0, none⟩ = false := free_row g2
    have f1 : w4.frozen? ⟨B + 1, 1, none⟩ = false := free_row g2
    have f2 : w4.frozen? ⟨B + 1, 2, none⟩ = false := free_row g2
    have G2 := hid g2
    have G3 := hid g3
    have G4 := hid g4
    clear hw4 g1 g2 g3 g4 HK HT c0 z0
    go_wp2_with fail
    refine bodyPost_ret (results_cell_row (g := B + 1) (t := 60) rfl _ _ _ (0, 0) _ rfl (heap_put _ _ (heap_put _ _ (heap_put _ _ G2.out))) Yba.underlying60 rfl (by kernel_rfl)) rfl ?_
    exact ⟨by rw [G4.out]; rfl, ((G3.out.setCell (by show B ≤ B + 1; omega) _).setCell (by show B ≤ B + 1; omega) _).setCell (by show B ≤ B + 1; omega) _⟩
  · by_cases k2 : a + r < 0
    · have hn0 : 0 ≤ a + r + 1000000000 := by omega
      have hn1 : a + r + 1000000000 < 1000000000 := by omega
      have hor := or0 (a + r + 1000000000) hn0 hn1
      have hand2 := and63 (a + r + 1000000000) hn0 hn1
      have hand3 : (bits .and .u64 (a + r + 1000000000) 9223372036854775808 != 0) = false := by rw [hand2]; rfl
      have hwn : wrap32 (a + r + 1000000000) = a + r + 1000000000 := by unfold wrap32; omega
      have hsum : N + d = 1000000000 * (s + (q - 1)) + (a + r + 1000000000) := by have := HDQ.out; have := HA.out; have := HSS.out; omega
      have HT := HTL.out (a + r + 1000000000) (q - 1) hn0 hn1 hsum (by have := HSS.out; have := HDQ.out; omega)
      have HK := HKY.out (a + r + 1000000000) (q - 1) hn0 hn1 hsum
      clear hsum HTL HKY
      go_enter Yba.func14, Yba.ntmps14
      go_wp2_with fail
      refine HNS.out.mono ?_
      rintro e w9 ⟨rfl, rfl⟩
      go_wp2_with fail
      refine HT.out.mono ?_
      rintro e w4 ⟨rfl, hw4⟩
      obtain ⟨g1, g2, g3, g4⟩ := HK.out w4 hw4
      have d0 : w4.cell? ⟨B, 0, none⟩ = some (.int .u64 (a + r + 1000000000)) := by rw [cell_row g1]; rfl
      have d1 : w4.cell? ⟨B, 1, none⟩ = some (.int .i64 (s + (q - 1))) := by rw [cell_row g1]; rfl
      have d2 : w4.cell? ⟨B, 2, none⟩ = some (.pointer none) := by rw [cell_row g1]; rfl
      have e0 : w4.cell? ⟨B + 1, 0, none⟩ = some (.int .u64 0) := by rw [cell_row g2]; rfl
      have e1 : w4.cell? ⟨B + 1, 1, none⟩ = some (.int .i64 0) := by rw [cell_row g2]; rfl
      have e2 : w4.cell? ⟨B + 1, 2, none⟩ = some (.pointer none) := by rw [cell_row g2]; rfl
      have f0 : w4.frozen? ⟨B + 1, 0, none⟩ = false := free_row g2
      have f1 : w4.frozen? ⟨B + 1, 1, none⟩ = false := free_row g2
      have f2 : w4.frozen? ⟨B + 1, 2, none⟩ = false := free_row g2
      have G2 := hid g2
      have G3 := hid g3
      have G4 := hid g4
      clear hw4 g1 g2 g3 g4 HK HT c0 z0
      go_wp2_with fail
      refine bodyPost_ret (results_cell_row (g := B + 1) (t := 60) rfl _ _ _ (0, 0) _ rfl (heap_put _ _ (heap_put _ _ (heap_put _ _ G2.out))) Yba.underlying60 rfl (by kernel_rfl)) rfl ?_
      exact ⟨by rw [G4.out]; rfl, ((G3.out.setCell (by show B ≤ B + 1; omega) _).setCell (by show B ≤ B + 1; omega) _).setCell (by show B ≤ B + 1; omega) _⟩
    · have hn0 : 0 ≤ a + r := by omega
      have hn1 : a + r < 1000000000 := by omega
      have hor := or0 (a + r) hn0 hn1
      have hand2 := and63 (a + r) hn0 hn1
      have hand3 : (bits .and .u64 (a + r) 9223372036854775808 != 0) = false := by rw [hand2]; rfl
      have hsum : N + d = 1000000000 * (s + q) + (a + r) := by have := HDQ.out; have := HA.out; have := HSS.out; omega
      have HT := HTL.out (a + r) (q) hn0 hn1 hsum (by have := HSS.out; have := HDQ.out; omega)
      have HK := HKY.out (a + r) (q) hn0 hn1 hsum
      clear hsum HTL HKY
      go_enter Yba.func14, Yba.ntmps14
      go_wp2_with fail
      refine HNS.out.mono ?_
      rintro e w9 ⟨rfl, rfl⟩
      go_wp2_with fail
      refine HT.out.mono ?_
      rintro e w4 ⟨rfl, hw4⟩
      obtain ⟨g1, g2, g3, g4⟩ := HK.out w4 hw4
      have d0 : w4.cell? ⟨B, 0, none⟩ = some (.int .u64 (a + r)) := by rw [cell_row g1]; rfl
      have d1 : w4.cell? ⟨B, 1, none⟩ = some (.int .i64 (s + q)) := by rw [cell_row g1]; rfl
      have d2 : w4.cell? ⟨B, 2, none⟩ = some (.pointer none) := by rw [cell_row g1]; rfl
      have e0 : w4.cell? ⟨B + 1, 0, none⟩ = some (.int .u64 0) := by rw [cell_row g2]; rfl
      have e1 : w4.cell? ⟨B + 1, 1, none⟩ = some (.int .i64 0) := by rw [cell_row g2]; rfl
      have e2 : w4.cell? ⟨B + 1, 2, none⟩ = some (.pointer none) := by rw [cell_row g2]; rfl
      have f0 : w4.frozen? ⟨B + 1, 0, none⟩ = false := free_row g2
      have f1 : w4.frozen? ⟨B + 1, 1, none⟩ = false := free_row g2
      have f2 : w4.frozen? ⟨B + 1, 2, none⟩ = false := free_row g2
      have G2 := hid g2
      have G3 := hid g3
      have G4 := hid g4
      clear hw4 g1 g2 g3 g4 HK HT c0 z0
      go_wp2_with fail
      refine bodyPost_ret (results_cell_row (g := B + 1) (t := 60) rfl _ _ _ (0, 0) _ rfl (heap_put _ _ (heap_put _ _ (heap_put _ _ G2.out))) Yba.underlying60 rfl (by kernel_rfl)) rfl ?_
      exact ⟨by rw [G4.out]; rfl, ((G3.out.setCell (by show B ≤ B + 1; omega) _).setCell (by show B ≤ B + 1; omega) _).setCell (by show B ≤ B + 1; omega) _⟩

theorem and_both (a b : Int) (h0 : 0 ≤ a) (h1 : a < 1000000000) (g0 : 0 ≤ b) (g1 : b < 1000000000) : 0 ≤ bits .and .u64 a b ∧ bits .and .u64 a b < 1000000000 := by
  rw [u64_and a b h0 (by omega) g0 (by omega)]
  have := Nat.and_le_left (n := a.toNat) (m := b.toNat)
  omega

/-- The two operands, boxed. -/
theorem two_rows (w : World) (a s b t : Int) : ∃ w2, ((w.alloc (.cells #[.int .u64 a, .int .i64 s, .pointer none] 60)).alloc (.cells #[.int .u64 b, .int .i64 t, .pointer none] 60)) = w2 ∧ Below w.heap.size w w2 ∧
    w2.cell? ⟨w.heap.size, 0, none⟩ = some (.int .u64 a) ∧ w2.cell? ⟨w.heap.size, 1, none⟩ = some (.int .i64 s) ∧ w2.cell? ⟨w.heap.size + 1, 0, none⟩ = some (.int .u64 b) ∧ w2.cell? ⟨w.heap.size + 1, 1, none⟩ = some (.int .i64 t) := by
  refine ⟨_, rfl, ((Below.refl _ _).alloc (Nat.le_refl _) _).alloc (by simp) _, ?_⟩
  have h1 : ((w.alloc (.cells #[.int .u64 a, .int .i64 s, .pointer none] 60)).alloc (.cells #[.int .u64 b, .int .i64 t, .pointer none] 60)).heap[w.heap.size]? = some (.cells #[.int .u64 a, .int .i64 s, .pointer none] 60 (0, 0)) :=
    (heap_alloc_old _ _ (by simp)).trans (heap_alloc_new w _)
  have h2 : ((w.alloc (.cells #[.int .u64 a, .int .i64 s, .pointer none] 60)).alloc (.cells #[.int .u64 b, .int .i64 t, .pointer none] 60)).heap[w.heap.size + 1]? = some (.cells #[.int .u64 b, .int .i64 t, .pointer none] 60 (0, 0)) := by
    have := heap_alloc_new (w.alloc (.cells #[.int .u64 a, .int .i64 s, .pointer none] 60)) (.cells #[.int .u64 b, .int .i64 t, .pointer none] 60)
    simpa using this
  refine ⟨?_, ?_, ?_, ?_⟩
  · rw [cell_row h1]; rfl
  · rw [cell_row h1]; rfl
  · rw [cell_row h2]; rfl
  · rw [cell_row h2]; rfl

set_option maxHeartbeats 1000000 in
set_option maxRecDepth 100000 in
theorem before_any (N M : Int) (w : World) :
    Calls Yba.prog 42 #[.agg (tv N), .agg (tv M)] w fun e w' => e = .returned (.bool (decide (N < M))) ∧ Below w.heap.size w w' := by
  show Calls Yba.prog 42 #[.agg #[.int .u64 (N % 1000000000), .int .i64 (N / 1000000000), .pointer none], .agg #[.int .u64 (M % 1000000000), .int .i64 (M / 1000000000), .pointer none]] w _
  have hcmp : decide (N < M) = (decide (N / 1000000000 < M / 1000000000) || (decide (N / 1000000000 = M / 1000000000) && decide (N % 1000000000 < M % 1000000000))) := by
    rw [Bool.eq_iff_iff]
    simp
    omega
  rw [hcmp]
  have a0 : 0 ≤ N % 1000000000 := by omega
  have a1 : N % 1000000000 < 1000000000 := by omega
  have c0 : 0 ≤ M % 1000000000 := by omega
  have c1 : M % 1000000000 < 1000000000 := by omega
  clear hcmp
  generalize N % 1000000000 = a at *
  generalize N / 1000000000 = s at *
  generalize M % 1000000000 = b at *
  generalize M / 1000000000 = t at *
  obtain ⟨x0, x1⟩ := and_both a b a0 a1 c0 c1
  have hm := and63 _ x0 x1
  generalize hab : bits .and .u64 a b = ab at *
  have hm' : (bits .and .u64 ab 9223372036854775808 != 0) = false := by rw [hm]; rfl
  obtain ⟨w2, hw2, bel, d0, d1, d2, d3⟩ := two_rows w a s b t
  have HS1 := hid (sec_any w.heap.size 0 a s w2 a0 a1 d0 d1)
  have HS2 := hid (sec_any (w.heap.size + 1) 0 b t w2 c0 c1 d2 d3)
  have HN1 := hid (nsec_any w.heap.size 0 a w2 a0 a1 d0)
  have HN2 := hid (nsec_any (w.heap.size + 1) 0 b w2 c0 c1 d2)
  have HB := hid bel
  clear bel
  rcases Int.lt_trichotomy s t with hlt | heq | hgt
  · go_enter Yba.func42, Yba.ntmps42
    go_wp2_with fail
    refine HS1.out.mono ?_
    rintro e w9 ⟨rfl, rfl⟩
    go_wp2_with fail
    refine HS2.out.mono ?_
    rintro e w9 ⟨rfl, rfl⟩
    go_wp2_with fail
    go_ret
    exact ⟨by simp [hlt], HB.out⟩
  · subst heq
    have hne : ¬ s < s := by omega
    go_enter Yba.func42, Yba.ntmps42
    go_wp2_with fail
    refine HS1.out.mono ?_
    rintro e w9 ⟨rfl, rfl⟩
    go_wp2_with fail
    refine HS2.out.mono ?_
    rintro e w9 ⟨rfl, rfl⟩
    go_wp2_with fail
    refine HN1.out.mono ?_
    rintro e w9 ⟨rfl, rfl⟩
    go_wp2_with fail
    refine HN2.out.mono ?_
    rintro e w9 ⟨rfl, rfl⟩
    go_wp2_with fail
    go_ret
    exact ⟨by simp, HB.out⟩
  · have hne : ¬ s < t := by omega
    have hne2 : ¬ s = t := by omega
    have hne3 : (s == t) = false := by simpa using hne2
    go_enter Yba.func42, Yba.ntmps42
    go_wp2_with fail
    refine HS1.out.mono ?_
    rintro e w9 ⟨rfl, rfl⟩
    go_wp2_with fail
    refine HS2.out.mono ?_
    rintro e w9 ⟨rfl, rfl⟩
    go_wp2_with fail
    go_ret
    exact ⟨by simp [hne2], HB.out⟩

set_option maxHeartbeats 1000000 in
set_option maxRecDepth 100000 in
theorem equal_any (N M : Int) (w : World) :
    Calls Yba.prog 15 #[.agg (tv N), .agg (tv M)] w fun e w' => e = .returned (.bool (decide (N = M))) ∧ Below w.heap.size w w' := by
  show Calls Yba.prog 15 #[.agg #[.int .u64 (N % 1000000000), .int .i64 (N / 1000000000), .pointer none], .agg #[.int .u64 (M % 1000000000), .int .i64 (M / 1000000000), .pointer none]] w _
  have hcmp : decide (N = M) = (decide (N / 1000000000 = M / 1000000000) && decide (N % 1000000000 = M % 1000000000)) := by
    rw [Bool.eq_iff_iff]
    simp
    omega
  rw [hcmp]
  have a0 : 0 ≤ N % 1000000000 := by omega
  have a1 : N % 1000000000 < 1000000000 := by omega
  have c0 : 0 ≤ M % 1000000000 := by omega
  have c1 : M % 1000000000 < 1000000000 := by omega
  clear hcmp
  generalize N % 1000000000 = a at *
  generalize N / 1000000000 = s at *
  generalize M % 1000000000 = b at *
  generalize M / 1000000000 = t at *
  obtain ⟨x0, x1⟩ := and_both a b a0 a1 c0 c1
  have hm := and63 _ x0 x1
  generalize hab : bits .and .u64 a b = ab at *
  have hm' : (bits .and .u64 ab 9223372036854775808 != 0) = false := by rw [hm]; rfl
  obtain ⟨w2, hw2, bel, d0, d1, d2, d3⟩ := two_rows w a s b t
  have HS1 := hid (sec_any w.heap.size 0 a s w2 a0 a1 d0 d1)
  have HS2 := hid (sec_any (w.heap.size + 1) 0 b t w2 c0 c1 d2 d3)
  have HN1 := hid (nsec_any w.heap.size 0 a w2 a0 a1 d0)
  have HN2 := hid (nsec_any (w.heap.size + 1) 0 b w2 c0 c1 d2)
  have HB := hid bel
  clear bel
  by_cases heq : s = t
  · subst heq
    go_enter Yba.func15, Yba.ntmps15
    go_wp2_with fail
    refine HS1.out.mono ?_
    rintro e w9 ⟨rfl, rfl⟩
    go_wp2_with fail
    refine HS2.out.mono ?_
    rintro e w9 ⟨rfl, rfl⟩
    go_wp2_with fail
    refine HN1.out.mono ?_
    rintro e w9 ⟨rfl, rfl⟩
    go_wp2_with fail
    refine HN2.out.mono ?_
    rintro e w9 ⟨rfl, rfl⟩
    go_wp2_with fail
    go_ret
    exact ⟨by simp [BEq.beq], HB.out⟩
  · have hne3 : (s == t) = false := by simpa using heq
    go_enter Yba.func15, Yba.ntmps15
    go_wp2_with fail
    refine HS1.out.mono ?_
    rintro e w9 ⟨rfl, rfl⟩
    go_wp2_with fail
    refine HS2.out.mono ?_
    rintro e w9 ⟨rfl, rfl⟩
    go_wp2_with fail
    go_ret
    exact ⟨by simp [heq], HB.out⟩

end Go.Proofs.Ybulketto.B
