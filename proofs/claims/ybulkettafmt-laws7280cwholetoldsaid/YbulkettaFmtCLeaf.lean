import Derived.Test.YbulkettaFmtErrorf
namespace Go.Proofs.YbulkettaFmt
open Go.RowKit Go.Extern.Stop Go.Stop Go.Extern

theorem hid {P : Prop} (h : P) : Hid P := h

set_option maxHeartbeats 400000 in
theorem clos (s0 s1 s2 v : ByteArray) (vb : Nat) (w : World) (hc : w.cell? ⟨vb, 0, none⟩ = some (.string v)) :
    Calls Ybaf.prog 14 #[.agg #[.string s0, .string s1, .string s2], .pointer (some ⟨vb, 0, none⟩)] w fun e w' => e = .returned (.bool (s0.toList == v.toList)) ∧ Below w.heap.size w w' := by
  have hlt := World.block_lt_of_cell? w _ hc
  have hne : vb ≠ w.heap.size := by simp at hlt; omega
  have hlt' : vb < w.heap.size := by simp at hlt; omega
  go_enter Ybaf.func14, Ybaf.ntmps14
  go_wp2
  go_ret
  exact ⟨rfl, (Below.refl _ _).alloc (Nat.le_refl _) _⟩

/-- The first index at which f says yes, or n. -/
theorem first_yes (f : Nat → Bool) : ∀ n, ∃ i, i ≤ n ∧ (i < n → f i = true) ∧ ∀ j, j < i → f j = false
  | 0 => ⟨0, Nat.le_refl _, fun h => absurd h (by omega), fun j hj => absurd hj (by omega)⟩
  | n + 1 => by
    obtain ⟨i, h1, h2, h3⟩ := first_yes f n
    by_cases hi : i < n
    · exact ⟨i, by omega, fun _ => h2 hi, h3⟩
    · obtain rfl : i = n := by omega
      by_cases hf : f i = true
      · exact ⟨i, by omega, fun _ => hf, h3⟩
      · refine ⟨i + 1, Nat.le_refl _, fun h => absurd h (by omega), fun j hj => ?_⟩
        by_cases hji : j = i
        · subst hji; simpa using hf
        · exact h3 j (by omega)

set_option maxHeartbeats 400000 in
theorem index_any (a0 : Option Addr) (g n c vb : Nat) (V R L : Nat → ByteArray) (v : ByteArray) (w : World) (hn : n ≤ 1048576) (ha : 0 < n → a0 = some ⟨g, 0, none⟩)
    (h0 : ∀ j, j < n → w.cell? ⟨g, j * 3, none⟩ = some (.string (V j))) (h1 : ∀ j, j < n → w.cell? ⟨g, j * 3 + 1, none⟩ = some (.string (R j))) (h2 : ∀ j, j < n → w.cell? ⟨g, j * 3 + 2, none⟩ = some (.string (L j)))
    (hv : w.cell? ⟨vb, 0, none⟩ = some (.string v)) (i1 : Nat) (hi1 : i1 ≤ n) (he : i1 < n → ((V i1).toList == v.toList) = true) (hlt : ∀ j, j < i1 → ((V j).toList == v.toList) = false) :
    Calls Ybaf.prog 16 #[.slice a0 n c, .func (.func 14) #[] #[.pointer (some ⟨vb, 0, none⟩)]] w fun e w' => e = .returned (.int .i64 (if i1 < n then (i1 : Int) else -1)) ∧ Below w.heap.size w w' := by
  have HA : Hid (0 < n → a0 = some ⟨g, 0, none⟩) := ha
  have H0 : Hid (∀ j, j < n → w.cell? ⟨g, j * 3, none⟩ = some (.string (V j))) := h0
  have H1 : Hid (∀ j, j < n → w.cell? ⟨g, j * 3 + 1, none⟩ = some (.string (R j))) := h1
  have H2 : Hid (∀ j, j < n → w.cell? ⟨g, j * 3 + 2, none⟩ = some (.string (L j))) := h2
  have HE : Hid (i1 < n → ((V i1).toList == v.toList) = true) := he
  have HL : Hid (∀ j, j < i1 → ((V j).toList == v.toList) = false) := hlt
  have HV : Hid (w.cell? ⟨vb, 0, none⟩ = some (.string v)) := hv
  have hvb : vb < w.heap.size := World.block_lt_of_cell? w _ hv
  clear ha h0 h1 h2 he hlt hv
  go_enter Ybaf.func16, Ybaf.ntmps16
  go_wp2
  go_loopw [8] (fun i wr => ∃ k : Nat, k ≤ i1 ∧ i = .int .i64 k ∧ Below w.heap.size w wr) (fun i _ => n - (intOf i).toNat)
  case atStart => exact ⟨0, by omega, rfl, Below.refl _ _⟩
  case round =>
    obtain ⟨k, hk, rfl, hb⟩ := hrel
    have hsz := hb.size
    by_cases hkn0 : k < n
    · obtain rfl := HA.out (by omega)
      have hg : g < w.heap.size := World.block_lt_of_cell? w _ (H0.out k hkn0)
      have a0 : wr.cell? ⟨g, k * 3, none⟩ = some (.string (V k)) := (hb.cell (p := ⟨g, k * 3, none⟩) hg).trans (H0.out k hkn0)
      have a1 : wr.cell? ⟨g, k * 3 + 1, none⟩ = some (.string (R k)) := (hb.cell (p := ⟨g, k * 3 + 1, none⟩) hg).trans (H1.out k hkn0)
      have a2 : wr.cell? ⟨g, k * 3 + 2, none⟩ = some (.string (L k)) := (hb.cell (p := ⟨g, k * 3 + 2, none⟩) hg).trans (H2.out k hkn0)
      have av : wr.cell? ⟨vb, 0, none⟩ = some (.string v) := (hb.cell (p := ⟨vb, 0, none⟩) hvb).trans HV.out
      have hkn : (k : Int) < (n : Int) := by omega
      have HC : Hid (Calls Ybaf.prog 14 #[.agg #[.string (V k), .string (R k), .string (L k)], .pointer (some ⟨vb, 0, none⟩)] wr fun e w' => e = .returned (.bool ((V k).toList == v.toList)) ∧ Below wr.heap.size wr w') := clos (V k) (R k) (L k) v vb wr av
      by_cases hki : k = i1
      · subst hki
        have heq := HE.out hkn0
        rw [heq] at HC
        clear H0 H1 H2 HE HL
        go_wp2_with (go_at_call 14; refine HC.out.mono ?_; rintro e w1 ⟨rfl, hb1⟩)
        go_ret
        exact ⟨by simp, hb.trans (hb1.mono hsz)⟩
      · have heq := HL.out k (by omega)
        rw [heq] at HC
        clear H0 H1 H2 HE HL
        go_wp2_with (go_at_call 14; refine HC.out.mono ?_; rintro e w1 ⟨rfl, hb1⟩)
        go_roundw
        case rel => exact ⟨k + 1, by omega, by go_num, hb.trans (hb1.mono hsz)⟩
        case measure => simp [intOf]; omega
    · have hkn : ¬ (k : Int) < (n : Int) := by omega
      clear H0 H1 H2 HE HL
      go_wp2
      go_ret
      exact ⟨rfl, hb⟩

set_option maxHeartbeats 400000 in
theorem contains_any (a0 : Option Addr) (g n c vb : Nat) (V R L : Nat → ByteArray) (v : ByteArray) (w : World) (hn : n ≤ 1048576) (ha : 0 < n → a0 = some ⟨g, 0, none⟩)
    (h0 : ∀ j, j < n → w.cell? ⟨g, j * 3, none⟩ = some (.string (V j))) (h1 : ∀ j, j < n → w.cell? ⟨g, j * 3 + 1, none⟩ = some (.string (R j))) (h2 : ∀ j, j < n → w.cell? ⟨g, j * 3 + 2, none⟩ = some (.string (L j)))
    (hv : w.cell? ⟨vb, 0, none⟩ = some (.string v)) (i1 : Nat) (hi1 : i1 ≤ n) (he : i1 < n → ((V i1).toList == v.toList) = true) (hlt : ∀ j, j < i1 → ((V j).toList == v.toList) = false) :
    Calls Ybaf.prog 13 #[.slice a0 n c, .func (.func 14) #[] #[.pointer (some ⟨vb, 0, none⟩)]] w fun e w' => e = .returned (.bool (decide (i1 < n))) ∧ Below w.heap.size w w' := by
  have HI : Hid (Calls Ybaf.prog 16 #[.slice a0 n c, .func (.func 14) #[] #[.pointer (some ⟨vb, 0, none⟩)]] w fun e w' => e = .returned (.int .i64 (if i1 < n then (i1 : Int) else -1)) ∧ Below w.heap.size w w') := index_any a0 g n c vb V R L v w hn ha h0 h1 h2 hv i1 hi1 he hlt
  clear ha h0 h1 h2 he hlt hv
  by_cases hi : i1 < n
  · rw [if_pos hi] at HI
    have hge : (0 : Int) ≤ (i1 : Int) := by omega
    go_enter Ybaf.func13, Ybaf.ntmps13
    go_wp2_with (go_at_call 16; refine HI.out.mono ?_; rintro e w1 ⟨rfl, hb1⟩)
    go_ret
    exact ⟨by simp [hi], hb1⟩
  · rw [if_neg hi] at HI
    go_enter Ybaf.func13, Ybaf.ntmps13
    go_wp2_with (go_at_call 16; refine HI.out.mono ?_; rintro e w1 ⟨rfl, hb1⟩)
    go_ret
    exact ⟨by simp [hi], hb1⟩

set_option maxHeartbeats 1000000 in
set_option maxRecDepth 100000 in
theorem prohibited_any (F : Interp) (D : Nat) (a : Addr) (t : ByteArray) (a0 : Option Addr) (g n c : Nat) (V R L : Nat → ByteArray) (v : ByteArray) (w : World) (hF : F.answers w.tape) (hn : n ≤ 1048576) (ha : 0 < n → a0 = some ⟨g, 0, none⟩)
    (hD : w.cell? ⟨D, 6, none⟩ = some (.slice a0 n c)) (hG : w.cell? ⟨2, 0, none⟩ = some (.iface 111 (.pointer (some a)))) (ht : w.cell? a = some (.string t))
    (h0 : ∀ j, j < n → w.cell? ⟨g, j * 3, none⟩ = some (.string (V j))) (h1 : ∀ j, j < n → w.cell? ⟨g, j * 3 + 1, none⟩ = some (.string (R j))) (h2 : ∀ j, j < n → w.cell? ⟨g, j * 3 + 2, none⟩ = some (.string (L j)))
    (i1 : Nat) (hi1 : i1 ≤ n) (he : i1 < n → ((V i1).toList == v.toList) = true) (hlt : ∀ j, j < i1 → ((V j).toList == v.toList) = false) :
    Calls Ybaf.prog 9 #[.pointer (some ⟨D, 0, none⟩), .string v] w fun e w' => Below w.heap.size w w' ∧ ((i1 = n ∧ e = .returned .nilIface) ∨ (i1 < n ∧ ∃ pb T, e = .returned (.iface 110 (.pointer (some ⟨pb, 0, none⟩))) ∧ w'.heap[pb]? = some (.cells #[.string T, .iface 111 (.pointer (some a))] 176 (0, 0)))) := by
  have hDl : D < w.heap.size := World.block_lt_of_cell? w _ hD
  have hGl : 2 < w.heap.size := World.block_lt_of_cell? w _ hG
  have hal : a.block < w.heap.size := World.block_lt_of_cell? w _ ht
  have bel1 : Below w.heap.size w (w.alloc (.cells #[.string v] 9)) := (Below.refl _ _).alloc (Nat.le_refl _) _
  have HC : Hid (Calls Ybaf.prog 13 #[.slice a0 n c, .func (.func 14) #[] #[.pointer (some ⟨w.heap.size, 0, none⟩)]] (w.alloc (.cells #[.string v] 9)) fun e w' => e = .returned (.bool (decide (i1 < n))) ∧ Below (w.alloc (.cells #[.string v] 9)).heap.size (w.alloc (.cells #[.string v] 9)) w') :=
    contains_any a0 g n c w.heap.size V R L v _ hn ha (fun j hj => cell_later bel1 (h0 j hj)) (fun j hj => cell_later bel1 (h1 j hj)) (fun j hj => cell_later bel1 (h2 j hj)) (by simp) i1 hi1 he hlt
  have hD1 := cell_later bel1 hD
  have hG1 := cell_later bel1 hG
  have ht1 := cell_later bel1 ht
  clear ha h0 h1 h2 he hlt
  by_cases hi : i1 < n
  · have hdc : decide (i1 < n) = true := by simpa using hi
    rw [hdc] at HC
    go_enter Ybaf.func9, Ybaf.ntmps9
    go_wp2_with fail
    refine HC.out.mono ?_
    rintro e w1 ⟨rfl, hb1⟩
    have bel2 := bel1.trans (hb1.mono (by simp))
    have hG2 := cell_later bel2 hG
    have ht2 := cell_later bel2 ht
    have hv2 : w1.cell? ⟨w.heap.size, 0, none⟩ = some (.string v) := (hb1.cell (p := ⟨w.heap.size, 0, none⟩) (by simp)).trans (by simp)
    have bel3 : Below w1.heap.size w1 (w1.alloc (.cells #[.iface 111 (.pointer (some a)), .iface 9 (.string v)] 20)) := (Below.refl _ _).alloc (Nat.le_refl _) _
    have ht3 := cell_later bel3 ht2
    have hF3 : F.answers (w1.alloc (.cells #[.iface 111 (.pointer (some a)), .iface 9 (.string v)] 20)).tape := by
      show F.answers w1.tape
      rw [bel2.tape]
      exact hF
    have HE' := hid (errorf_C F w1.heap.size a v t (w1.alloc (.cells #[.iface 111 (.pointer (some a)), .iface 9 (.string v)] 20)) hF3 (by simp) (by simp) ht3)
    clear hF3 ht3 HC hD1 hG1 ht1
    go_wp2_with fail
    refine HE'.out.mono ?_
    rintro e w2 ⟨rfl, ⟨T, hT⟩, hb2⟩
    go_wp2
    go_ret
    exact ⟨bel2.trans ((bel3.trans (hb2.mono (by simp))).mono (by have := bel2.size; omega)), .inr ⟨hi, _, T, rfl, by simpa using hT⟩⟩
  · have hdc : decide (i1 < n) = false := by simpa using hi
    rw [hdc] at HC
    go_enter Ybaf.func9, Ybaf.ntmps9
    go_wp2_with fail
    refine HC.out.mono ?_
    rintro e w1 ⟨rfl, hb1⟩
    go_wp2
    go_ret
    exact ⟨bel1.trans (hb1.mono (by simp)), .inl ⟨by omega, rfl⟩⟩

end Go.Proofs.YbulkettaFmt
