/-
  LawS7281AWhole: zzs7281asame (9).
-/
import Derived.Test.YbulkettoAFlow
namespace Go.Proofs.Ybulketto
open Go.RowKit

theorem lt4 {P : Nat → Prop} (h0 : P 0) (h1 : P 1) (h2 : P 2) (h3 : P 3) : ∀ k, k < 4 → P k := by
  intro k hk
  have : k = 0 ∨ k = 1 ∨ k = 2 ∨ k = 3 := by omega
  rcases this with rfl | rfl | rfl | rfl <;> assumption

set_option maxHeartbeats 1000000 in
theorem same_any (F o cap : Nat) (U N : Nat → Nat) (w : World) (hN : ∀ j, j < 4 → N j ≤ 65535)
    (h0 : w.cell? ⟨F, o, none⟩ = some (.float .f64 cap)) (h1 : ∀ j, j < 4 → w.cell? ⟨F, o + 5 + j, none⟩ = some (.float .f64 (U j))) (h2 : ∀ j, j < 4 → ∃ p c, w.cell? ⟨F, o + 1 + j, none⟩ = some (.slice p (N j) c)) :
    Calls Yba.prog 9 #[.pointer (some ⟨F, o, none⟩), .float .f64 cap, .agg #[.float .f64 (U 0), .float .f64 (U 1), .float .f64 (U 2), .float .f64 (U 3)], .agg #[.int .u16 (N 0 : Int), .int .u16 (N 1 : Int), .int .u16 (N 2 : Int), .int .u16 (N 3 : Int)]] w fun e w' => e = .returned (.bool true) ∧ Below w.heap.size w w' := by
  have hF : F < w.heap.size := World.block_lt_of_cell? w _ h0
  have h27 : ∀ (b : Nat) (w : World), (callFunc 27 #[.float .f64 b]).run Yba.prog w = .ok (.value (.int .u64 (b : Int))) w := fun b w => by kernel_rfl
  obtain ⟨W, hWe⟩ : ∃ W, W = (w.alloc (.cells #[.float .f64 (U 0), .float .f64 (U 1), .float .f64 (U 2), .float .f64 (U 3)] 23)).alloc (.cells #[.int .u16 (N 0 : Int), .int .u16 (N 1 : Int), .int .u16 (N 2 : Int), .int .u16 (N 3 : Int)] 25) := ⟨_, rfl⟩
  have bel : Below w.heap.size w W := by rw [hWe]; exact ((Below.refl _ _).alloc (Nat.le_refl _) _).alloc (by simp) _
  have HA : Hid (∀ k, k < 4 → W.cell? ⟨w.heap.size, k, none⟩ = some (.float .f64 (U k))) := by rw [hWe]; exact lt4 (by simp) (by simp) (by simp) (by simp)
  have HB : Hid (∀ k, k < 4 → W.cell? ⟨w.heap.size + 1, k, none⟩ = some (.int .u16 (N k : Int))) := by rw [hWe]; exact lt4 (by simp) (by simp) (by simp) (by simp)
  have H1 := hid h1
  have H2 := hid h2
  have HN := hid hN
  have hsz : W.heap.size = w.heap.size + 2 := by rw [hWe]; simp
  have HW := hid hWe
  have H0 := hid h0
  clear h1 h2 hN hWe
  have hcc : ((cap : Int) != (cap : Int)) = false := by simp
  go_enter Yba.func9, Yba.ntmps9
  go_wp2_with fail
  rw [← HW.out]
  clear h0 hcc
  go_loopw [9] (fun i wr => ∃ k : Nat, k ≤ 4 ∧ i = .int .i64 k ∧ Below W.heap.size W wr) (fun i _ => 4 - (intOf i).toNat)
  case atStart => exact ⟨0, by omega, rfl, Below.refl _ _⟩
  case round =>
    obtain ⟨k, hk, rfl, hb⟩ := hrel
    by_cases hk4 : k < 4
    · have hk0 : (0 : Int) ≤ (k : Int) := by omega
      have hk1 : (k : Int) < 4 := by omega
      have c0 := cell_later hb (HA.out k hk4)
      have c1 := cell_later hb (HB.out k hk4)
      have c2 := cell_later hb (cell_later bel (H1.out k hk4))
      obtain ⟨p, c, hp⟩ := H2.out k hk4
      have c3 := cell_later hb (cell_later bel hp)
      have hnk := HN.out k hk4
      have hnk0 : (0 : Int) ≤ (N k : Int) := by omega
      have hnk1 : (N k : Int) ≤ 65535 := by omega
      have hu : ((U k : Int) != (U k : Int)) = false := by simp
      have hv : ((N k : Int) != (N k : Int)) = false := by simp
      clear hp hnk
      go_wp2_with fail
      go_quiet (fail)
      go_wp2_with fail
      go_quiet (fail)
      go_wp2_with fail
      go_roundw
      case rel => exact ⟨k + 1, by omega, by go_num, hb.trans ⟨rfl, rfl, rfl, Nat.le_refl _, fun _ _ => rfl⟩⟩
      case measure => simp [intOf]; omega
    · have hk1 : ¬ (k : Int) < 4 := by omega
      go_wp2_with fail
      go_ret
      exact ⟨rfl, bel.trans (hb.mono bel.size)⟩

end Go.Proofs.Ybulketto
