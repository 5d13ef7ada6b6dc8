/-
  LawS7203CWhole: the places of eight shapes (9), and what present (13) says of each.
-/
import Derived.Test.YbulkesdoCLeaf
namespace Go.Proofs.Ybulkesdo.C
open Go.RowKit Go.Maps Go.WideMaps
attribute [local go_sem ↓] Go.wp_at_zero Go.wp_at_succ

set_option maxHeartbeats 1000000 in
set_option maxRecDepth 100000 in
theorem pres0 (p : Nat) (w : World) (hp : w.heap[p]? = some (.cells #[.slice none 0 0, .pointer none, .pointer none, .pointer none] 80 (0, 0))) :
    Calls Yba.prog 13 #[.pointer (some ⟨p, 0, none⟩)] w fun e w' => e = .returned (.bool false) ∧ w' = w := by
  have p0 : w.cell? ⟨p, 0, none⟩ = some (.slice none 0 0) := by rw [cell_row hp]; rfl
  have p1 : w.cell? ⟨p, 1, none⟩ = some (.pointer none) := by rw [cell_row hp]; rfl
  have p2 : w.cell? ⟨p, 2, none⟩ = some (.pointer none) := by rw [cell_row hp]; rfl
  have p3 : w.cell? ⟨p, 3, none⟩ = some (.pointer none) := by rw [cell_row hp]; rfl
  clear hp
  go_enter Yba.func13, Yba.ntmps13
  go_wp2
  go_ret
  exact ⟨rfl, rfl⟩

set_option maxHeartbeats 1000000 in
set_option maxRecDepth 100000 in
theorem pres1 (p : Nat) (a : Addr) (w : World) (hp : w.heap[p]? = some (.cells #[.slice (some a) 1 1, .pointer none, .pointer none, .pointer none] 80 (0, 0))) :
    Calls Yba.prog 13 #[.pointer (some ⟨p, 0, none⟩)] w fun e w' => e = .returned (.bool true) ∧ w' = w := by
  have p0 : w.cell? ⟨p, 0, none⟩ = some (.slice (some a) 1 1) := by rw [cell_row hp]; rfl
  have p1 : w.cell? ⟨p, 1, none⟩ = some (.pointer none) := by rw [cell_row hp]; rfl
  have p2 : w.cell? ⟨p, 2, none⟩ = some (.pointer none) := by rw [cell_row hp]; rfl
  have p3 : w.cell? ⟨p, 3, none⟩ = some (.pointer none) := by rw [cell_row hp]; rfl
  clear hp
  go_enter Yba.func13, Yba.ntmps13
  go_wp2
  go_ret
  exact ⟨rfl, rfl⟩

set_option maxHeartbeats 1000000 in
set_option maxRecDepth 100000 in
theorem pres2 (p d : Nat) (a : Addr) (w : World) (hp : w.heap[p]? = some (.cells #[.slice none 0 0, .pointer (some ⟨d, 0, none⟩), .pointer none, .pointer none] 80 (0, 0))) (hd : w.heap[d]? = some (.cells #[.slice (some a) 1 1, .map none, .map none] 85 (0, 0))) :
    Calls Yba.prog 13 #[.pointer (some ⟨p, 0, none⟩)] w fun e w' => e = .returned (.bool true) ∧ w' = w := by
  have p0 : w.cell? ⟨p, 0, none⟩ = some (.slice none 0 0) := by rw [cell_row hp]; rfl
  have p1 : w.cell? ⟨p, 1, none⟩ = some (.pointer (some ⟨d, 0, none⟩)) := by rw [cell_row hp]; rfl
  have p2 : w.cell? ⟨p, 2, none⟩ = some (.pointer none) := by rw [cell_row hp]; rfl
  have p3 : w.cell? ⟨p, 3, none⟩ = some (.pointer none) := by rw [cell_row hp]; rfl
  have d0 : w.cell? ⟨d, 0, none⟩ = some (.slice (some a) 1 1) := by rw [cell_row hd]; rfl
  have d1 : w.cell? ⟨d, 1, none⟩ = some (.map none) := by rw [cell_row hd]; rfl
  have d2 : w.cell? ⟨d, 2, none⟩ = some (.map none) := by rw [cell_row hd]; rfl
  clear hp hd
  go_enter Yba.func13, Yba.ntmps13
  go_wp2
  go_ret
  exact ⟨rfl, rfl⟩

set_option maxHeartbeats 1000000 in
set_option maxRecDepth 100000 in
theorem pres3 (p d : Nat) (w : World) (hp : w.heap[p]? = some (.cells #[.slice none 0 0, .pointer (some ⟨d, 0, none⟩), .pointer none, .pointer none] 80 (0, 0))) (hd : w.heap[d]? = some (.cells #[.slice none 0 0, .map none, .map none] 85 (0, 0))) :
    Calls Yba.prog 13 #[.pointer (some ⟨p, 0, none⟩)] w fun e w' => e = .returned (.bool false) ∧ w' = w := by
  have p0 : w.cell? ⟨p, 0, none⟩ = some (.slice none 0 0) := by rw [cell_row hp]; rfl
  have p1 : w.cell? ⟨p, 1, none⟩ = some (.pointer (some ⟨d, 0, none⟩)) := by rw [cell_row hp]; rfl
  have p2 : w.cell? ⟨p, 2, none⟩ = some (.pointer none) := by rw [cell_row hp]; rfl
  have p3 : w.cell? ⟨p, 3, none⟩ = some (.pointer none) := by rw [cell_row hp]; rfl
  have d0 : w.cell? ⟨d, 0, none⟩ = some (.slice none 0 0) := by rw [cell_row hd]; rfl
  have d1 : w.cell? ⟨d, 1, none⟩ = some (.map none) := by rw [cell_row hd]; rfl
  have d2 : w.cell? ⟨d, 2, none⟩ = some (.map none) := by rw [cell_row hd]; rfl
  clear hp hd
  go_enter Yba.func13, Yba.ntmps13
  go_wp2
  go_ret
  exact ⟨rfl, rfl⟩

set_option maxHeartbeats 1000000 in
set_option maxRecDepth 100000 in
theorem pres4 (p d : Nat) (a : Addr) (w : World) (hp : w.heap[p]? = some (.cells #[.slice none 0 0, .pointer none, .pointer (some ⟨d, 0, none⟩), .pointer none] 80 (0, 0))) (hd : w.heap[d]? = some (.cells #[.slice (some a) 1 1, .pointer none, .pointer none, .map none, .nilFunc, .nilFunc, .map none, .map none, .map none, .map none, .map none] 54 (0, 0))) :
    Calls Yba.prog 13 #[.pointer (some ⟨p, 0, none⟩)] w fun e w' => e = .returned (.bool true) ∧ w' = w := by
  have p0 : w.cell? ⟨p, 0, none⟩ = some (.slice none 0 0) := by rw [cell_row hp]; rfl
  have p1 : w.cell? ⟨p, 1, none⟩ = some (.pointer none) := by rw [cell_row hp]; rfl
  have p2 : w.cell? ⟨p, 2, none⟩ = some (.pointer (some ⟨d, 0, none⟩)) := by rw [cell_row hp]; rfl
  have p3 : w.cell? ⟨p, 3, none⟩ = some (.pointer none) := by rw [cell_row hp]; rfl
  have d0 : w.cell? ⟨d, 0, none⟩ = some (.slice (some a) 1 1) := by rw [cell_row hd]; rfl
  have d1 : w.cell? ⟨d, 1, none⟩ = some (.pointer none) := by rw [cell_row hd]; rfl
  have d2 : w.cell? ⟨d, 2, none⟩ = some (.pointer none) := by rw [cell_row hd]; rfl
  have d3 : w.cell? ⟨d, 3, none⟩ = some (.map none) := by rw [cell_row hd]; rfl
  have d4 : w.cell? ⟨d, 4, none⟩ = some (.nilFunc) := by rw [cell_row hd]; rfl
  have d5 : w.cell? ⟨d, 5, none⟩ = some (.nilFunc) := by rw [cell_row hd]; rfl
  have d6 : w.cell? ⟨d, 6, none⟩ = some (.map none) := by rw [cell_row hd]; rfl
  have d7 : w.cell? ⟨d, 7, none⟩ = some (.map none) := by rw [cell_row hd]; rfl
  have d8 : w.cell? ⟨d, 8, none⟩ = some (.map none) := by rw [cell_row hd]; rfl
  have d9 : w.cell? ⟨d, 9, none⟩ = some (.map none) := by rw [cell_row hd]; rfl
  have d10 : w.cell? ⟨d, 10, none⟩ = some (.map none) := by rw [cell_row hd]; rfl
  clear hp hd
  go_enter Yba.func13, Yba.ntmps13
  go_wp2
  go_ret
  exact ⟨rfl, rfl⟩

set_option maxHeartbeats 1000000 in
set_option maxRecDepth 100000 in
theorem pres5 (p d g : Nat) (w : World) (hp : w.heap[p]? = some (.cells #[.slice none 0 0, .pointer none, .pointer (some ⟨d, 0, none⟩), .pointer none] 80 (0, 0))) (hd : w.heap[d]? = some (.cells #[.slice none 0 0, .pointer none, .pointer (some ⟨g, 0, none⟩), .map none, .nilFunc, .nilFunc, .map none, .map none, .map none, .map none, .map none] 54 (0, 0))) (hg : w.heap[g]? = some (.cells #[.pointer none, .int .i64 0, .slice none 0 0, .slice none 0 0] 88 (0, 0))) :
    Calls Yba.prog 13 #[.pointer (some ⟨p, 0, none⟩)] w fun e w' => e = .returned (.bool false) ∧ w' = w := by
  have p0 : w.cell? ⟨p, 0, none⟩ = some (.slice none 0 0) := by rw [cell_row hp]; rfl
  have p1 : w.cell? ⟨p, 1, none⟩ = some (.pointer none) := by rw [cell_row hp]; rfl
  have p2 : w.cell? ⟨p, 2, none⟩ = some (.pointer (some ⟨d, 0, none⟩)) := by rw [cell_row hp]; rfl
  have p3 : w.cell? ⟨p, 3, none⟩ = some (.pointer none) := by rw [cell_row hp]; rfl
  have d0 : w.cell? ⟨d, 0, none⟩ = some (.slice none 0 0) := by rw [cell_row hd]; rfl
  have d1 : w.cell? ⟨d, 1, none⟩ = some (.pointer none) := by rw [cell_row hd]; rfl
  have d2 : w.cell? ⟨d, 2, none⟩ = some (.pointer (some ⟨g, 0, none⟩)) := by rw [cell_row hd]; rfl
  have d3 : w.cell? ⟨d, 3, none⟩ = some (.map none) := by rw [cell_row hd]; rfl
  have d4 : w.cell? ⟨d, 4, none⟩ = some (.nilFunc) := by rw [cell_row hd]; rfl
  have d5 : w.cell? ⟨d, 5, none⟩ = some (.nilFunc) := by rw [cell_row hd]; rfl
  have d6 : w.cell? ⟨d, 6, none⟩ = some (.map none) := by rw [cell_row hd]; rfl
  have d7 : w.cell? ⟨d, 7, none⟩ = some (.map none) := by rw [cell_row hd]; rfl
  have d8 : w.cell? ⟨d, 8, none⟩ = some (.map none) := by rw [cell_row hd]; rfl
  have d9 : w.cell? ⟨d, 9, none⟩ = some (.map none) := by rw [cell_row hd]; rfl
  have d10 : w.cell? ⟨d, 10, none⟩ = some (.map none) := by rw [cell_row hd]; rfl
  have g0 : w.cell? ⟨g, 0, none⟩ = some (.pointer none) := by rw [cell_row hg]; rfl
  have g1 : w.cell? ⟨g, 1, none⟩ = some (.int .i64 0) := by rw [cell_row hg]; rfl
  have g2 : w.cell? ⟨g, 2, none⟩ = some (.slice none 0 0) := by rw [cell_row hg]; rfl
  have g3 : w.cell? ⟨g, 3, none⟩ = some (.slice none 0 0) := by rw [cell_row hg]; rfl
  clear hp hd hg
  go_enter Yba.func13, Yba.ntmps13
  go_wp2
  go_ret
  exact ⟨rfl, rfl⟩

set_option maxHeartbeats 1000000 in
set_option maxRecDepth 100000 in
theorem pres6 (p d : Nat) (a : Addr) (w : World) (hp : w.heap[p]? = some (.cells #[.slice none 0 0, .pointer none, .pointer none, .pointer (some ⟨d, 0, none⟩)] 80 (0, 0))) (hd : w.heap[d]? = some (.cells #[.pointer none, .pointer none, .map none, .nilFunc, .nilFunc, .map none, .map none, .slice (some a) 1 1] 98 (0, 0))) :
    Calls Yba.prog 13 #[.pointer (some ⟨p, 0, none⟩)] w fun e w' => e = .returned (.bool true) ∧ w' = w := by
  have p0 : w.cell? ⟨p, 0, none⟩ = some (.slice none 0 0) := by rw [cell_row hp]; rfl
  have p1 : w.cell? ⟨p, 1, none⟩ = some (.pointer none) := by rw [cell_row hp]; rfl
  have p2 : w.cell? ⟨p, 2, none⟩ = some (.pointer none) := by rw [cell_row hp]; rfl
  have p3 : w.cell? ⟨p, 3, none⟩ = some (.pointer (some ⟨d, 0, none⟩)) := by rw [cell_row hp]; rfl
  have d0 : w.cell? ⟨d, 0, none⟩ = some (.pointer none) := by rw [cell_row hd]; rfl
  have d1 : w.cell? ⟨d, 1, none⟩ = some (.pointer none) := by rw [cell_row hd]; rfl
  have d2 : w.cell? ⟨d, 2, none⟩ = some (.map none) := by rw [cell_row hd]; rfl
  have d3 : w.cell? ⟨d, 3, none⟩ = some (.nilFunc) := by rw [cell_row hd]; rfl
  have d4 : w.cell? ⟨d, 4, none⟩ = some (.nilFunc) := by rw [cell_row hd]; rfl
  have d5 : w.cell? ⟨d, 5, none⟩ = some (.map none) := by rw [cell_row hd]; rfl
  have d6 : w.cell? ⟨d, 6, none⟩ = some (.map none) := by rw [cell_row hd]; rfl
  have d7 : w.cell? ⟨d, 7, none⟩ = some (.slice (some a) 1 1) := by rw [cell_row hd]; rfl
  clear hp hd
  go_enter Yba.func13, Yba.ntmps13
  go_wp2
  go_ret
  exact ⟨rfl, rfl⟩

set_option maxHeartbeats 1000000 in
set_option maxRecDepth 100000 in
theorem pres7 (p d g : Nat) (w : World) (hp : w.heap[p]? = some (.cells #[.slice none 0 0, .pointer none, .pointer none, .pointer (some ⟨d, 0, none⟩)] 80 (0, 0))) (hd : w.heap[d]? = some (.cells #[.pointer none, .pointer (some ⟨g, 0, none⟩), .map none, .nilFunc, .nilFunc, .map none, .map none, .slice none 0 0] 98 (0, 0))) (hg : w.heap[g]? = some (.cells #[.pointer none, .int .i64 0, .slice none 0 0, .slice none 0 0] 102 (0, 0))) :
    Calls Yba.prog 13 #[.pointer (some ⟨p, 0, none⟩)] w fun e w' => e = .returned (.bool false) ∧ w' = w := by
  have p0 : w.cell? ⟨p, 0, none⟩ = some (.slice none 0 0) := by rw [cell_row hp]; rfl
  have p1 : w.cell? ⟨p, 1, none⟩ = some (.pointer none) := by rw [cell_row hp]; rfl
  have p2 : w.cell? ⟨p, 2, none⟩ = some (.pointer none) := by rw [cell_row hp]; rfl
  have p3 : w.cell? ⟨p, 3, none⟩ = some (.pointer (some ⟨d, 0, none⟩)) := by rw [cell_row hp]; rfl
  have d0 : w.cell? ⟨d, 0, none⟩ = some (.pointer none) := by rw [cell_row hd]; rfl
  have d1 : w.cell? ⟨d, 1, none⟩ = some (.pointer (some ⟨g, 0, none⟩)) := by rw [cell_row hd]; rfl
  have d2 : w.cell? ⟨d, 2, none⟩ = some (.map none) := by rw [cell_row hd]; rfl
  have d3 : w.cell? ⟨d, 3, none⟩ = some (.nilFunc) := by rw [cell_row hd]; rfl
  have d4 : w.cell? ⟨d, 4, none⟩ = some (.nilFunc) := by rw [cell_row hd]; rfl
  have d5 : w.cell? ⟨d, 5, none⟩ = some (.map none) := by rw [cell_row hd]; rfl
  have d6 : w.cell? ⟨d, 6, none⟩ = some (.map none) := by rw [cell_row hd]; rfl
  have d7 : w.cell? ⟨d, 7, none⟩ = some (.slice none 0 0) := by rw [cell_row hd]; rfl
  have g0 : w.cell? ⟨g, 0, none⟩ = some (.pointer none) := by rw [cell_row hg]; rfl
  have g1 : w.cell? ⟨g, 1, none⟩ = some (.int .i64 0) := by rw [cell_row hg]; rfl
  have g2 : w.cell? ⟨g, 2, none⟩ = some (.slice none 0 0) := by rw [cell_row hg]; rfl
  have g3 : w.cell? ⟨g, 3, none⟩ = some (.slice none 0 0) := by rw [cell_row hg]; rfl
  clear hp hd hg
  go_enter Yba.func13, Yba.ntmps13
  go_wp2
  go_ret
  exact ⟨rfl, rfl⟩

/-- In whatever world that holds the blocks from lo to hi as w does, present answers s at p. -/
def Placed (s : Bool) (p lo hi : Nat) (w : World) : Prop :=
  ∀ w', (∀ b, lo ≤ b → b < hi → w'.heap[b]? = w.heap[b]?) → Calls Yba.prog 13 #[.pointer (some ⟨p, 0, none⟩)] w' fun e w'' => e = .returned (.bool s) ∧ w'' = w'
theorem Placed.kept {s : Bool} {p lo hi : Nat} {w w' : World} (h : Placed s p lo hi w) (hk : ∀ b, lo ≤ b → b < hi → w'.heap[b]? = w.heap[b]?) : Placed s p lo hi w' :=
  fun w2 h2 => h w2 (fun b h3 h4 => (h2 b h3 h4).trans (hk b h3 h4))
/-- Whether something shows. -/
def showS (k : Int) : Bool := decide (k % 8 = 1 ∨ k % 8 = 2 ∨ k % 8 = 4 ∨ k % 8 = 6)

theorem one_new (w : World) (o1 : Obj) : (w.alloc o1).heap[w.heap.size]? = some o1 ∧ Below w.heap.size w (w.alloc o1) ∧ (w.alloc o1).heap.size = w.heap.size + 1 :=
  ⟨heap_alloc_new w o1, (Below.refl _ _).alloc (Nat.le_refl _) _, by simp⟩
theorem two_new (w : World) (o1 o2 : Obj) : ((w.alloc o1).alloc o2).heap[w.heap.size]? = some o1 ∧ ((w.alloc o1).alloc o2).heap[w.heap.size + 1]? = some o2 ∧ Below w.heap.size w ((w.alloc o1).alloc o2) ∧ ((w.alloc o1).alloc o2).heap.size = w.heap.size + 1 + 1 := by
  refine ⟨(heap_alloc_old _ _ (by simp)).trans (heap_alloc_new w o1), ?_, ((Below.refl _ _).alloc (Nat.le_refl _) _).alloc (by simp) _, by simp⟩
  have := heap_alloc_new (w.alloc o1) o2
  simpa using this
theorem three_new (w : World) (o1 o2 o3 : Obj) : (((w.alloc o1).alloc o2).alloc o3).heap[w.heap.size]? = some o1 ∧ (((w.alloc o1).alloc o2).alloc o3).heap[w.heap.size + 1]? = some o2 ∧ (((w.alloc o1).alloc o2).alloc o3).heap[w.heap.size + 1 + 1]? = some o3 ∧
    Below w.heap.size w (((w.alloc o1).alloc o2).alloc o3) ∧ (((w.alloc o1).alloc o2).alloc o3).heap.size = w.heap.size + 1 + 1 + 1 := by
  obtain ⟨h1, h2, h3, h4⟩ := two_new w o1 o2
  refine ⟨(heap_alloc_old _ _ (by rw [h4]; omega)).trans h1, (heap_alloc_old _ _ (by rw [h4]; omega)).trans h2, ?_, h3.alloc (by rw [h4]; omega) _, by simp⟩
  have := heap_alloc_new ((w.alloc o1).alloc o2) o3
  rw [h4] at this
  exact this

/-- What zzs7203cplace leaves. -/
def PlaceOut (k : Int) (w : World) (e : Ending) (w' : World) : Prop :=
  ∃ p, e = .returned (.tuple #[.pointer (some ⟨p, 0, none⟩), .bool (showS k)]) ∧ Below w.heap.size w w' ∧ w.heap.size ≤ p ∧ p < w'.heap.size ∧ Placed (showS k) p w.heap.size w'.heap.size w'

set_option maxHeartbeats 1000000 in
set_option maxRecDepth 100000 in
theorem place_any (k : Int) (w : World) (h0 : 0 ≤ k) (h1 : k ≤ 255) : Calls Yba.prog 9 #[.int .u8 k] w fun e w' => PlaceOut k w e w' := by
  have hc : k % 8 = 0 ∨ k % 8 = 1 ∨ k % 8 = 2 ∨ k % 8 = 3 ∨ k % 8 = 4 ∨ k % 8 = 5 ∨ k % 8 = 6 ∨ k % 8 = 7 := by omega
  rcases hc with h | h | h | h | h | h | h | h
  · have hs : showS k = false := by simp [showS, h]
    have HS := hid hs
    clear hs
    go_enter Yba.func9, Yba.ntmps9
    go_wp2
    go_ret2
    refine ⟨w.heap.size, by rw [HS.out]; first | rfl | simp, ?_⟩
    rw [HS.out]
    obtain ⟨r1, r2, r3⟩ := one_new w (.cells #[.slice none 0 0, .pointer none, .pointer none, .pointer none] 80)
    exact ⟨r2, Nat.le_refl _, by rw [r3]; omega, fun w' hw => pres0 _ w' ((hw _ (Nat.le_refl _) (by rw [r3]; omega)).trans r1)⟩
  · have hs : showS k = true := by simp [showS, h]
    have HS := hid hs
    clear hs
    go_enter Yba.func9, Yba.ntmps9
    go_wp2
    go_ret2
    refine ⟨w.heap.size + 1, by rw [HS.out]; first | rfl | simp, ?_⟩
    rw [HS.out]
    obtain ⟨r1, r2, r3, r4⟩ := two_new w _ _
    exact ⟨r3, by omega, by rw [r4]; omega, fun w' hw => pres1 _ _ w' ((hw _ (by omega) (by rw [r4]; omega)).trans r2)⟩
  · have hs : showS k = true := by simp [showS, h]
    have HS := hid hs
    clear hs
    go_enter Yba.func9, Yba.ntmps9
    go_wp2
    go_ret2
    refine ⟨w.heap.size + 1 + 1, by rw [HS.out]; first | rfl | simp, ?_⟩
    rw [HS.out]
    obtain ⟨r1, r2, r3, r4, r5⟩ := three_new w _ _ _
    exact ⟨r4, by omega, by rw [r5]; omega, fun w' hw => pres2 _ _ _ w' ((hw _ (by omega) (by rw [r5]; omega)).trans r3) ((hw _ (by omega) (by rw [r5]; omega)).trans r2)⟩
  · have hs : showS k = false := by simp [showS, h]
    have HS := hid hs
    clear hs
    go_enter Yba.func9, Yba.ntmps9
    go_wp2
    go_ret2
    refine ⟨w.heap.size + 1, by rw [HS.out]; first | rfl | simp, ?_⟩
    rw [HS.out]
    obtain ⟨r1, r2, r3, r4⟩ := two_new w _ _
    exact ⟨r3, by omega, by rw [r4]; omega, fun w' hw => pres3 _ _ w' ((hw _ (by omega) (by rw [r4]; omega)).trans r2) ((hw _ (by omega) (by rw [r4]; omega)).trans r1)⟩
  · have hs : showS k = true := by simp [showS, h]
    have HS := hid hs
    clear hs
    go_enter Yba.func9, Yba.ntmps9
    go_wp2
    go_ret2
    refine ⟨w.heap.size + 1 + 1, by rw [HS.out]; first | rfl | simp, ?_⟩
    rw [HS.out]
    obtain ⟨r1, r2, r3, r4, r5⟩ := three_new w _ _ _
    exact ⟨r4, by omega, by rw [r5]; omega, fun w' hw => pres4 _ _ _ w' ((hw _ (by omega) (by rw [r5]; omega)).trans r3) ((hw _ (by omega) (by rw [r5]; omega)).trans r2)⟩
  · have hs : showS k = false := by simp [showS, h]
    have HS := hid hs
    clear hs
    go_enter Yba.func9, Yba.ntmps9
    go_wp2
    go_ret2
    refine ⟨w.heap.size + 1 + 1, by rw [HS.out]; first | rfl | simp, ?_⟩
    rw [HS.out]
    obtain ⟨r1, r2, r3, r4, r5⟩ := three_new w _ _ _
    exact ⟨r4, by omega, by rw [r5]; omega, fun w' hw => pres5 _ _ _ w' ((hw _ (by omega) (by rw [r5]; omega)).trans r3) ((hw _ (by omega) (by rw [r5]; omega)).trans r2) ((hw _ (by omega) (by rw [r5]; omega)).trans r1)⟩
  · have hs : showS k = true := by simp [showS, h]
    have HS := hid hs
    clear hs
    go_enter Yba.func9, Yba.ntmps9
    go_wp2
    go_ret2
    refine ⟨w.heap.size + 1 + 1, by rw [HS.out]; first | rfl | simp, ?_⟩
    rw [HS.out]
    obtain ⟨r1, r2, r3, r4, r5⟩ := three_new w _ _ _
    exact ⟨r4, by omega, by rw [r5]; omega, fun w' hw => pres6 _ _ _ w' ((hw _ (by omega) (by rw [r5]; omega)).trans r3) ((hw _ (by omega) (by rw [r5]; omega)).trans r2)⟩
  · have hs : showS k = false := by simp [showS, h]
    have HS := hid hs
    clear hs
    go_enter Yba.func9, Yba.ntmps9
    go_wp2
    go_ret2
    refine ⟨w.heap.size + 1 + 1, by rw [HS.out]; first | rfl | simp, ?_⟩
    rw [HS.out]
    obtain ⟨r1, r2, r3, r4, r5⟩ := three_new w _ _ _
    exact ⟨r4, by omega, by rw [r5]; omega, fun w' hw => pres7 _ _ _ w' ((hw _ (by omega) (by rw [r5]; omega)).trans r3) ((hw _ (by omega) (by rw [r5]; omega)).trans r2) ((hw _ (by omega) (by rw [r5]; omega)).trans r1)⟩

end Go.Proofs.Ybulkesdo.C
