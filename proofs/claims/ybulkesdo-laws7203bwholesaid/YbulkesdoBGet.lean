/-
  jsonObject.get (6), by one contract: i0 is the first index whose name is the one asked for, or n where there is none.
-/
import Derived.Test.YbulkesdoBLeaf
namespace Go.Proofs.Ybulkesdo
open Go.RowKit Go.Lib

set_option maxHeartbeats 400000 in
theorem get_any (g n c : Nat) (S : Nat → ByteArray) (P : Nat → Option Addr) (M C : Nat → Nat) (name : ByteArray) (w : World) (hn : n ≤ 1048576) (hg : g < w.heap.size)
    (h0 : ∀ j, j < n → w.cell? ⟨g, j * 2, none⟩ = some (.string (S j)))
    (h1 : ∀ j, j < n → w.cell? ⟨g, j * 2 + 1, none⟩ = some (.slice (P j) (M j) (C j))) (i0 : Nat) (hi0 : i0 ≤ n) (he : i0 < n → ((S i0).toList == name.toList) = true) (hlt : ∀ j, j < i0 → ((S j).toList == name.toList) = false)
    (hP : i0 = n → P i0 = none ∧ M i0 = 0 ∧ C i0 = 0) :
    Calls Yba.prog 6 #[.slice (some ⟨g, 0, none⟩) n c, .string name] w fun e w' => e = .returned (.tuple #[.slice (P i0) (M i0) (C i0), .bool (decide (i0 < n))]) ∧ Below w.heap.size w w' := by
  have HP : Hid (i0 = n → P i0 = none ∧ M i0 = 0 ∧ C i0 = 0) := hP
  clear hP
  go_enter Yba.func6, Yba.ntmps6
  go_wp2
  go_loopw [10] (fun i wr => ∃ k : Nat, k ≤ i0 ∧ i = .int .i64 k ∧ Below w.heap.size w wr) (fun i _ => n - (intOf i).toNat)
  case atStart => exact ⟨0, by omega, rfl, Below.refl _ _⟩
  case round =>
    obtain ⟨k, hk, rfl, hb⟩ := hrel
    by_cases hkn0 : k < n
    · have a0 : wr.cell? ⟨g, k * 2, none⟩ = some (.string (S k)) := (hb.cell (p := ⟨g, k * 2, none⟩) hg).trans (h0 k (by omega))
      have a1 : wr.cell? ⟨g, k * 2 + 1, none⟩ = some (.slice (P k) (M k) (C k)) := (hb.cell (p := ⟨g, k * 2 + 1, none⟩) hg).trans (h1 k (by omega))
      have hkn : (k : Int) < (n : Int) := by omega
      clear h0 h1
      have hsz := hb.size
      by_cases hki : k = i0
      · subst hki
        have heq := he hkn0
        clear he hlt
        go_wp2
        go_ret2
        exact ⟨by simp [hkn0], hb.alloc hsz _⟩
      · have heq := hlt k (by omega)
        clear he hlt
        go_wp2
        go_roundw
        case rel => exact ⟨k + 1, by omega, by go_num, hb.alloc hsz _⟩
        case measure => simp [intOf]; omega
    · have hkn : ¬ (k : Int) < (n : Int) := by omega
      clear h0 h1 he hlt
      go_wp2
      go_ret2
      obtain ⟨p1, p2, p3⟩ := HP.out (by omega)
      exact ⟨by rw [p1, p2, p3]; simp; omega, hb⟩

end Go.Proofs.Ybulkesdo
