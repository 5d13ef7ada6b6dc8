/-
  LawS7281AWhole: flow.share (6).
-/
import Derived.Test.YbulkettoAShare
namespace Go.Proofs.Ybulketto
open Go.RowKit

/-! ### min of two shares -/
def Got (q1 q2 g : Nat) : Prop :=
  ((isNaN q1 ∨ isNaN q2) ∧ isNaN g) ∨ (¬ isNaN q1 ∧ ¬ isNaN q2 ∧ ((D.order q1 q2 = some .lt ∧ g = q1) ∨ (D.order q1 q2 ≠ some .lt ∧ D.order g q2 = some .eq)))
def infW : Nat := 9218868437227405312
theorem order_inf {q : Nat} (hq : ¬ isNaN q) : D.order infW q = some .gt ∨ D.order infW q = some .eq := by
  unfold infW
  unfold isNaN at hq
  unfold Ieee.Format.order
  rw [read_inf]
  generalize D.read q = a at *
  cases a with
  | nan s t => simp [Ieee.Datum.isNaN] at hq
  | infinity s => cases s <;> simp only [Ieee.Datum.order] <;> first | exact .inl rfl | exact .inr rfl
  | number s m e => simp [Ieee.Datum.order]
theorem inf_num : ¬ isNaN infW := by unfold isNaN infW; rw [read_inf]; decide
theorem inf_pos : (D.read infW).neg = false := by unfold infW; rw [read_inf]; rfl
theorem mn_inf {q : Nat} (hq : ¬ isNaN q) : mnO infW q = some q := by
  unfold mnO
  rcases order_inf hq with h | h
  · rw [h]
  · rw [h]; simp only []; rw [inf_pos]; rfl
theorem mn_nan {x y : Nat} (h : isNaN x ∨ isNaN y) : mnO x y = none := by unfold mnO; rw [order_none h]
theorem order_eq_left {x y : Nat} (h : D.order x y = some .eq) (b : Bool) : D.order (if b then x else y) y = some .eq := by
  cases b
  · exact order_self (not_nan_of_order h).2
  · exact h

theorem min_got (q1 q2 : Nat) (w w2 : World) : Got q1 q2 (arV (mnO (arV (mnO infW q1) (.nanMinMax .f64 false infW q1) w) q2) (.nanMinMax .f64 false (arV (mnO infW q1) (.nanMinMax .f64 false infW q1) w) q2) w2) := by
  by_cases h1 : isNaN q1
  · left
    refine ⟨.inl h1, ?_⟩
    rw [mn_nan (.inr h1), mn_nan (.inl (mm_nan _ _ _ _))]
    exact mm_nan _ _ _ _
  · rw [mn_inf h1, arV_some]
    by_cases h2 : isNaN q2
    · left
      refine ⟨.inr h2, ?_⟩
      rw [mn_nan (.inr h2)]
      exact mm_nan _ _ _ _
    · right
      refine ⟨h1, h2, ?_⟩
      obtain ⟨o, ho⟩ := order_some h1 h2
      cases o with
      | lt =>
        left
        refine ⟨ho, ?_⟩
        have : mnO q1 q2 = some q1 := by unfold mnO; rw [ho]
        rw [this, arV_some]
      | gt =>
        right
        refine ⟨(by rw [ho]; exact fun h => by cases h), ?_⟩
        have : mnO q1 q2 = some q2 := by unfold mnO; rw [ho]
        rw [this, arV_some]
        exact order_self h2
      | eq =>
        right
        refine ⟨(by rw [ho]; exact fun h => by cases h), ?_⟩
        have : mnO q1 q2 = some (if (D.read q1).neg then q1 else q2) := by unfold mnO; rw [ho]
        rw [this, arV_some]
        exact order_eq_left ho _

set_option maxHeartbeats 1000000 in
theorem share_any (f F T c : Nat) (cap1 used1 n1 cap2 used2 n2 : Nat) (p1 p2 : Option Addr) (cc1 cc2 : Nat) (hc4 : c < 4) (hn1 : n1 ≤ 65535) (hn2 : n2 ≤ 65535) (w : World)
    (h0 : w.cell? ⟨f, 0, none⟩ = some (.pointer (some ⟨F, 0, none⟩))) (h1 : w.cell? ⟨f, 1, none⟩ = some (.pointer (some ⟨T, 0, none⟩))) (h3 : w.cell? ⟨f, 3, none⟩ = some (.int .i64 c))
    (u0 : w.cell? ⟨F, 2, none⟩ = some (.float .f64 cap1)) (u1 : w.cell? ⟨F, 2 + 5 + c, none⟩ = some (.float .f64 used1)) (u2 : w.cell? ⟨F, 2 + 1 + c, none⟩ = some (.slice p1 n1 cc1))
    (d0 : w.cell? ⟨T, 15, none⟩ = some (.float .f64 cap2)) (d1 : w.cell? ⟨T, 15 + 5 + c, none⟩ = some (.float .f64 used2)) (d2 : w.cell? ⟨T, 15 + 1 + c, none⟩ = some (.slice p2 n2 cc2)) :
    Calls Yba.prog 6 #[.pointer (some ⟨f, 0, none⟩)] w fun e w' => ∃ q1 q2 g, e = .returned (.float .f64 g) ∧ ShareRel cap1 used1 n1 q1 ∧ ShareRel cap2 used2 n2 q2 ∧ Got q1 q2 g ∧ Below w.heap.size w w' := by
  have HS := hid (sides_any f F T w h0 h1)
  have i0 : ∀ w, (Instr.index 96 (.agg #[.pointer (some ⟨F, 2, none⟩), .pointer (some ⟨T, 15, none⟩)]) (.int .i64 0)).run Yba.prog w = .ok (.pointer (some ⟨F, 2, none⟩)) w := fun _ => by kernel_rfl
  have i1 : ∀ w, (Instr.index 96 (.agg #[.pointer (some ⟨F, 2, none⟩), .pointer (some ⟨T, 15, none⟩)]) (.int .i64 1)).run Yba.prog w = .ok (.pointer (some ⟨T, 15, none⟩)) w := fun _ => by kernel_rfl
  have hmn := run_min
  have HH := hid (And.intro h3 (And.intro u0 (And.intro u1 (And.intro u2 (And.intro d0 (And.intro d1 d2))))))
  clear h0 h1 h3 u0 u1 u2 d0 d1 d2
  go_enter Yba.func6, Yba.ntmps6
  go_wp2_with (first | (go_at_call 22; refine (inf_any _).mono ?_; rintro e w' ⟨rfl, hw⟩; have hw2 := hw.symm; subst hw2) | (go_at_call 23; refine HS.out.mono ?_; rintro e w1 ⟨rfl, hb1⟩))
  obtain ⟨h3, u0, u1, u2, d0, d1, d2⟩ := HH.out
  have k3 := cell_later hb1 h3
  have HA := hid (side_share F 2 c cap1 used1 n1 p1 cc1 hc4 w1 hn1 (cell_later hb1 u0) (cell_later hb1 u1) (cell_later hb1 u2))
  clear h3 u0 u1 u2 d0 d1 d2 HS
  refine wp_loop_rounds 3 ?_
  rw [rounds_succ]
  go_wp2_with (go_at_call 24; refine HA.out.mono ?_; rintro e w2 ⟨q1, rfl, hs1, m1, rfl⟩)
  obtain ⟨m2, hm2⟩ := arW_drew (mnO 9218868437227405312 q1) (w1.drewN m1)
  obtain ⟨h3, u0, u1, u2, d0, d1, d2⟩ := HH.out
  have bel2 : Below w1.heap.size w1 (w1.drewN (m1 + m2)) := ⟨rfl, rfl, rfl, Nat.le_refl _, fun _ _ => rfl⟩
  have HB := hid (side_share T 15 c cap2 used2 n2 p2 cc2 hc4 (w1.drewN (m1 + m2)) hn2 (cell_later bel2 (cell_later hb1 d0)) (cell_later bel2 (cell_later hb1 d1)) (cell_later bel2 (cell_later hb1 d2)))
  have HS1 := hid hs1
  have HG := hid (min_got q1)
  rw [hm2]
  generalize hv : arV (mnO 9218868437227405312 q1) (.nanMinMax .f64 false 9218868437227405312 q1) (w1.drewN m1) = v1
  have HV := hid hv
  clear h3 u0 u1 u2 d0 d1 d2 HA hs1 hm2 hv
  rw [rounds_succ]
  go_wp2_with (go_at_call 24; refine HB.out.mono ?_; rintro e w2 ⟨q2, rfl, hs2, m3, rfl⟩)
  rw [rounds_succ]
  go_wp2_with fail
  go_ret
  have hg := HG.out q2 (w1.drewN m1)
  unfold infW at hg
  rw [HV.out] at hg
  refine ⟨q1, q2, _, rfl, HS1.out, hs2, hg _, ?_⟩
  obtain ⟨m4, hm4⟩ := arW_drew (mnO v1 q2) (w1.drewN (m1 + m2 + m3))
  rw [hm4]
  exact ⟨hb1.os, hb1.tape, hb1.output, hb1.size, hb1.block⟩

end Go.Proofs.Ybulketto
