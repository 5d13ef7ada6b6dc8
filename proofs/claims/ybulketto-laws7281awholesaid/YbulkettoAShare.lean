/-
  LawS7281AWhole: side.share (24), flow.sides (23), flow.share (6).
-/
import Derived.Test.YbulkettoASide
import Derived.Deep.RegionHeld3
import Derived.Deep.DrawnRows
import Derived.Deep.QuietTactic
import Derived.BigQuiet
import Derived.Deep.RegionWith
namespace Go.Proofs.Ybulketto
open Go.RowKit
attribute [local go_sem ↓] Go.wp_at_zero Go.wp_at_succ

theorem arW_cell (o : Option Nat) (w : World) (a : Addr) : (arW o w).cell? a = w.cell? a := by cases o <;> rfl

theorem quo_of (r y : Nat) (w : World) : quoOf r y (arV (D.div r y) (.nanBits .f64 r y) w) := by
  unfold quoOf
  cases hd : D.div r y with
  | none => exact .inr ⟨rfl, arV_nan _ _ _⟩
  | some d => exact .inl rfl

set_option maxHeartbeats 4000000 in
theorem side_share (F o c : Nat) (cap used n : Nat) (p : Option Addr) (cc : Nat) (hc4 : c < 4) (w : World) (_hn : n ≤ 65535)
    (h0 : w.cell? ⟨F, o, none⟩ = some (.float .f64 cap)) (h1 : w.cell? ⟨F, o + 5 + c, none⟩ = some (.float .f64 used)) (h2 : w.cell? ⟨F, o + 1 + c, none⟩ = some (.slice p n cc)) :
    Calls Yba.prog 24 #[.pointer (some ⟨F, o, none⟩), .int .i64 c] w fun e w' => ∃ q, e = .returned (.float .f64 q) ∧ ShareRel cap used n q ∧ ∃ m, w' = w.drewN m := by
  have hc0 : (0 : Int) ≤ (c : Int) := by omega
  have hc1 : (c : Int) < 4 := by omega
  go_enter Yba.func24, Yba.ntmps24
  go_wp2_with fail
  have hq := fun s => run_quo s (floatOfInt .f64 n)
  go_region_with (first | (go_at_call 38; refine (spare_any _ _ _).mono ?_; rintro e w1 ⟨r, rfl, hsp, k, rfl⟩; have HSP := hid hsp; clear hsp))
  all_goals (try go_wp2_with fail)
  all_goals go_ret
  all_goals exact ⟨_, rfl, ⟨r, HSP.out, quo_of _ _ _⟩, drN_drN ⟨1 + k, rfl⟩ (arW_drew _ _)⟩

set_option maxHeartbeats 1000000 in
theorem sides_any (f F T : Nat) (w : World) (h0 : w.cell? ⟨f, 0, none⟩ = some (.pointer (some ⟨F, 0, none⟩))) (h1 : w.cell? ⟨f, 1, none⟩ = some (.pointer (some ⟨T, 0, none⟩))) :
    Calls Yba.prog 23 #[.pointer (some ⟨f, 0, none⟩)] w fun e w' => e = .returned (.agg #[.pointer (some ⟨F, 2, none⟩), .pointer (some ⟨T, 15, none⟩)]) ∧ Below w.heap.size w w' := by
  have e0 := World.new_ne w _ h0
  have e1 := World.new_ne w _ h1
  have hf : f < w.heap.size := World.block_lt_of_cell? w _ h0
  go_enter Yba.func23, Yba.ntmps23
  go_wp2_with fail
  go_region_held3 (fun w' => w'.cell? ⟨f, 0, none⟩ = some (.pointer (some ⟨F, 0, none⟩)) ∧ w'.cell? ⟨f, 1, none⟩ = some (.pointer (some ⟨T, 0, none⟩))) (go_keep) (fail)
  go_wp2_with fail
  exact bodyPost_ret (v := .agg #[.pointer (some ⟨F, 2, none⟩), .pointer (some ⟨T, 15, none⟩)]) (by simp [results, Yba.results23, go_sem]) rfl ⟨rfl, ((Below.refl _ _).alloc (Nat.le_refl _) _).drew⟩

end Go.Proofs.Ybulketto
