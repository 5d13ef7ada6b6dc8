/-
  LawS7281AWhole: math's small functions, spare, the sides' shares, by contracts.
-/
import Derived.Test.YbulkettoAFloat
import Derived.Test.YbulkettoRows
import Derived.WalkKit
import Derived.WalkSpells
import Derived.WalkLawsBesides
namespace Go.Proofs.Ybulketto
open Go.RowKit

set_option maxHeartbeats 400000 in
theorem inf_any (w : World) : Calls Yba.prog 22 #[.int .i64 1] w fun e w' => e = .returned (.float .f64 9218868437227405312) ∧ w' = w := by
  have h26 : ∀ w, (callFunc 26 #[.int .u64 9218868437227405312]).run Yba.prog w = .ok (.value (.float .f64 9218868437227405312)) w := fun w => by kernel_rfl
  go_enter Yba.func22, Yba.ntmps22
  go_wp2
  go_ret
  exact ⟨rfl, rfl⟩

set_option maxHeartbeats 400000 in
theorem nan_any (w : World) : Calls Yba.prog 8 #[] w fun e w' => e = .returned (.float .f64 9221120237041090561) ∧ w' = w := by
  have h26 : ∀ w, (callFunc 26 #[.int .u64 9221120237041090561]).run Yba.prog w = .ok (.value (.float .f64 9221120237041090561)) w := fun w => by kernel_rfl
  go_enter Yba.func8, Yba.ntmps8
  go_wp2
  go_ret
  exact ⟨rfl, rfl⟩

set_option maxHeartbeats 400000 in
theorem isInf_any (f : Nat) (w : World) : Calls Yba.prog 25 #[.float .f64 f, .int .i64 1] w fun e w' => e = .returned (.bool (D.order f 9218868437227405311 == some .gt)) ∧ w' = w := by
  go_enter Yba.func25, Yba.ntmps25
  go_wp2
  go_ret
  exact ⟨rfl, rfl⟩

/-! ### What an operation on floats gives, NaNs drawn from the tape -/
def arV (o : Option Nat) (q : Question) (w : World) : Nat := match o with | some r => r | none => q.cut (w.tape w.drawn q)
def arW (o : Option Nat) (w : World) : World := match o with | some _ => w | none => w.drew
theorem arW_drew (o : Option Nat) (w : World) : ∃ n, arW o w = w.drewN n := by
  cases o
  · exact ⟨1, rfl⟩
  · exact ⟨0, rfl⟩
theorem arV_nan (x y : Nat) (w : World) : isNaN (arV none (.nanBits .f64 x y) w) := nan_bits _

theorem run_sub (x y : Nat) (w : World) : (binOp .sub 22 (.float .f64 x) (.float .f64 y)).run Yba.prog w = .ok (.float .f64 (arV (D.sub x y) (.nanBits .f64 x y) w)) (arW (D.sub x y) w) := by
  have e : FloatKind.f64.format.sub x y = D.sub x y := rfl
  simp only [binOp, Op.floatArith]
  cases h : D.sub x y <;> simp [e, h, arV, arW, Question.forced]
theorem run_quo (x y : Nat) (w : World) : (binOp .quo 22 (.float .f64 x) (.float .f64 y)).run Yba.prog w = .ok (.float .f64 (arV (D.div x y) (.nanBits .f64 x y) w)) (arW (D.div x y) w) := by
  have e : FloatKind.f64.format.div x y = D.div x y := rfl
  simp only [binOp, Op.floatArith]
  cases h : D.div x y <;> simp [e, h, arV, arW, Question.forced]

def mxO (x y : Nat) : Option Nat := match D.order x y with | none => none | some .lt => some y | some .gt => some x | some .eq => some (if (D.read x).neg then y else x)
def mnO (x y : Nat) : Option Nat := match D.order x y with | none => none | some .lt => some x | some .gt => some y | some .eq => some (if (D.read x).neg then x else y)
theorem run_max (ts : Array TypeId) (t : TypeId) (x y : Nat) (w : World) : (Builtin.max_ ts t #[.float .f64 x, .float .f64 y]).run Yba.prog w = .ok (.float .f64 (arV (mxO x y) (.nanMinMax .f64 true x y) w)) (arW (mxO x y) w) := by
  have e : FloatKind.f64.format.order x y = D.order x y := rfl
  have e2 : FloatKind.f64.decode x = D.read x := rfl
  simp only [Builtin.max_]
  cases h : D.order x y with
  | none => simp [Builtin.max2, e, h, arV, arW, mxO, Question.forced]
  | some o => cases o <;> simp [Builtin.max2, e, e2, h, arV, arW, mxO]
theorem run_min (ts : Array TypeId) (t : TypeId) (x y : Nat) (w : World) : (Builtin.min_ ts t #[.float .f64 x, .float .f64 y]).run Yba.prog w = .ok (.float .f64 (arV (mnO x y) (.nanMinMax .f64 false x y) w)) (arW (mnO x y) w) := by
  have e : FloatKind.f64.format.order x y = D.order x y := rfl
  have e2 : FloatKind.f64.decode x = D.read x := rfl
  simp only [Builtin.min_]
  cases h : D.order x y with
  | none => simp [Builtin.min2, e, h, arV, arW, mnO, Question.forced]
  | some o => cases o <;> simp [Builtin.min2, e, e2, h, arV, arW, mnO]
theorem mm_nan (b : Bool) (x y : Nat) (w : World) : isNaN (arV none (.nanMinMax .f64 b x y) w) := nan_bits _

/-! ### The plain law -/
def big : Nat := 9218868437227405311
/-- What is left of a link: 'spare', and the law's own reckoning of it. -/
def Sp (cap used r : Nat) : Prop :=
  (D.order cap big = some .gt ∧ r = cap) ∨
  (D.order cap big ≠ some .gt ∧ ((D.sub cap used = none ∧ isNaN r) ∨ ∃ d, D.sub cap used = some d ∧ ((isNaN d ∧ isNaN r) ∨ (D.order d 0 = some .gt ∧ r = d) ∨ (¬ isNaN d ∧ D.order d 0 ≠ some .gt ∧ D.read r = D.read 0))))

theorem Sp.same {cap used r s : Nat} (h : Sp cap used r) (k : Sp cap used s) : (isNaN r ∧ isNaN s) ∨ D.read r = D.read s := by
  rcases h with ⟨h1, rfl⟩ | ⟨h1, h2⟩
  · rcases k with ⟨_, rfl⟩ | ⟨k1, _⟩
    · exact .inr rfl
    · exact absurd h1 k1
  · rcases k with ⟨k1, _⟩ | ⟨_, k2⟩
    · exact absurd k1 h1
    · rcases h2 with ⟨h3, h4⟩ | ⟨d, h3, h4⟩
      · rcases k2 with ⟨_, k4⟩ | ⟨d', k3, _⟩
        · exact .inl ⟨h4, k4⟩
        · rw [h3] at k3; cases k3
      · rcases k2 with ⟨k3, _⟩ | ⟨d', k3, k4⟩
        · rw [h3] at k3; cases k3
        · rw [h3] at k3; cases k3
          rcases h4 with ⟨a1, a2⟩ | ⟨a1, rfl⟩ | ⟨a1, a2, a3⟩
          · rcases k4 with ⟨_, b2⟩ | ⟨b1, _⟩ | ⟨b1, _, _⟩
            · exact .inl ⟨a2, b2⟩
            · exact absurd a1 (not_nan_of_order b1).1
            · exact absurd a1 b1
          · rcases k4 with ⟨b1, _⟩ | ⟨_, rfl⟩ | ⟨_, b2, _⟩
            · exact absurd b1 (not_nan_of_order a1).1
            · exact .inr rfl
            · exact absurd a1 b2
          · rcases k4 with ⟨b1, _⟩ | ⟨b1, _⟩ | ⟨_, _, b3⟩
            · exact absurd b1 a1
            · exact absurd b1 a2
            · exact .inr (a3.trans b3.symm)

/-- Greater than nought, or nought, or a NaN. -/
theorem Sp.kinds {cap used r : Nat} (h : Sp cap used r) : isNaN r ∨ D.order r 0 = some .gt ∨ D.read r = D.read 0 := by
  rcases h with ⟨h1, rfl⟩ | ⟨_, ⟨_, h4⟩ | ⟨d, _, ⟨_, h4⟩ | ⟨h4, rfl⟩ | ⟨_, _, h4⟩⟩⟩
  · exact .inr (.inl (gt_of_inf h1))
  · exact .inl h4
  · exact .inl h4
  · exact .inr (.inl h4)
  · exact .inr (.inr h4)

def quoOf (r y a : Nat) : Prop := D.div r y = some a ∨ (D.div r y = none ∧ isNaN a)
def ShareRel (cap used : Nat) (n : Int) (a : Nat) : Prop := ∃ r, Sp cap used r ∧ quoOf r (floatOfInt .f64 n) a
def AsideRel (cap used : Nat) (n : Int) (b : Nat) : Prop := ∃ s, Sp cap used s ∧ (n = 0 → (D.order s 0 = some .gt ∧ b = 9218868437227405312) ∨ (D.order s 0 ≠ some .gt ∧ isNaN b)) ∧ (n ≠ 0 → quoOf s (floatOfInt .f64 n) b)
def Eqv (a b : Nat) : Prop := (isNaN a ∧ isNaN b) ∨ a = b

theorem order_congr {x x' : Nat} (h : D.read x = D.read x') (y : Nat) : D.order x y = D.order x' y := by unfold Ieee.Format.order; rw [h]
theorem float_zero : floatOfInt .f64 0 = 0 := by decide

theorem share_aside {cap used : Nat} {n : Int} {a b : Nat} (h : ShareRel cap used n a) (k : AsideRel cap used n b) : Eqv a b := by
  obtain ⟨r, h1, h2⟩ := h
  obtain ⟨s, k1, k2, k3⟩ := k
  by_cases hn : n = 0
  · subst hn
    rw [float_zero] at h2
    have k4 := k2 rfl
    rcases h1.same k1 with ⟨e1, e2⟩ | e
    · left
      refine ⟨?_, ?_⟩
      · rcases h2 with h2 | h2
        · rw [div_nan e1] at h2; cases h2
        · exact h2.2
      · rcases k4 with ⟨k4, _⟩ | ⟨_, k4⟩
        · exact absurd e2 (not_nan_of_order k4).1
        · exact k4
    · rcases h1.kinds with e1 | e1 | e1
      · left
        refine ⟨?_, ?_⟩
        · rcases h2 with h2 | h2
          · rw [div_nan e1] at h2; cases h2
          · exact h2.2
        · rcases k4 with ⟨k4, _⟩ | ⟨_, k4⟩
          · exact absurd ((isNaN_congr e).1 e1) (not_nan_of_order k4).1
          · exact k4
      · right
        rcases k4 with ⟨_, rfl⟩ | ⟨k4, _⟩
        · rcases h2 with h2 | h2
          · rw [div_zero_pos e1] at h2; cases h2; rfl
          · rw [div_zero_pos e1] at h2; cases h2.1
        · exact absurd (by rw [← order_congr e]; exact e1) k4
      · left
        refine ⟨?_, ?_⟩
        · rcases h2 with h2 | h2
          · rw [div_zero_zero e1] at h2; cases h2
          · exact h2.2
        · rcases k4 with ⟨k4, _⟩ | ⟨_, k4⟩
          · rw [zero_not_gt (e.symm.trans e1)] at k4; cases k4
          · exact k4
  · have k4 := k3 hn
    rcases h1.same k1 with ⟨e1, e2⟩ | e
    · left
      refine ⟨?_, ?_⟩
      · rcases h2 with h2 | h2
        · rw [div_nan e1] at h2; cases h2
        · exact h2.2
      · rcases k4 with k4 | k4
        · rw [div_nan e2] at k4; cases k4
        · exact k4.2
    · unfold quoOf at h2 k4
      rw [div_congr e] at h2
      rcases h2 with h2 | ⟨h2, h3⟩
      · rcases k4 with k4 | ⟨k4, _⟩
        · rw [h2] at k4; cases k4; exact .inr rfl
        · rw [h2] at k4; cases k4
      · rcases k4 with k4 | ⟨_, k4⟩
        · rw [h2] at k4; cases k4
        · exact .inl ⟨h3, k4⟩

/-! ### spare (38), the law's own reckoning (7) -/
theorem drN_drN {w w' w'' : World} (h : ∃ n, w' = w.drewN n) (k : ∃ n, w'' = w'.drewN n) : ∃ n, w'' = w.drewN n := by
  obtain ⟨n, rfl⟩ := h
  obtain ⟨m, rfl⟩ := k
  exact ⟨n + m, by rw [World.drewN_drewN]⟩
theorem hid {P : Prop} (h : P) : Hid P := h

theorem isInf_big (f : Nat) (w : World) : Calls Yba.prog 25 #[.float .f64 f, .int .i64 1] w fun e w' => e = .returned (.bool (D.order f big == some .gt)) ∧ w' = w := by
  unfold big
  exact isInf_any f w

set_option maxHeartbeats 400000 in
theorem spare_inf (cap used : Nat) (w : World) (hi : D.order cap big = some .gt) : Calls Yba.prog 38 #[.float .f64 cap, .float .f64 used] w fun e w' => e = .returned (.float .f64 cap) ∧ w' = w := by
  have HI := isInf_big cap w
  rw [hi, show ((some Ordering.gt : Option Ordering) == some .gt) = true from rfl] at HI
  have HI' := hid HI
  clear HI hi
  go_enter Yba.func38, Yba.ntmps38
  go_wp2_with (go_at_call 25; refine HI'.out.mono ?_; rintro e w' ⟨rfl, hw⟩; have hw2 := hw.symm; subst hw2)
  go_ret
  exact ⟨rfl, rfl⟩

set_option maxHeartbeats 400000 in
theorem spare_fin (cap used : Nat) (w : World) (hb : (D.order cap big == some .gt) = false) : Calls Yba.prog 38 #[.float .f64 cap, .float .f64 used] w fun e w' =>
    e = .returned (.float .f64 (arV (mxO (arV (D.sub cap used) (.nanBits .f64 cap used) w) 0) (.nanMinMax .f64 true (arV (D.sub cap used) (.nanBits .f64 cap used) w) 0) (arW (D.sub cap used) w))) ∧ w' = arW (mxO (arV (D.sub cap used) (.nanBits .f64 cap used) w) 0) (arW (D.sub cap used) w) := by
  have HI := isInf_big cap w
  rw [hb] at HI
  have HI' := hid HI
  have hs := run_sub cap used
  have hm := run_max
  clear HI hb
  go_enter Yba.func38, Yba.ntmps38
  go_wp2_with (go_at_call 25; refine HI'.out.mono ?_; rintro e w' ⟨rfl, hw⟩; have hw2 := hw.symm; subst hw2)
  go_ret
  exact ⟨rfl, rfl⟩

theorem nan_zero : ¬ isNaN 0 := by unfold isNaN; rw [read_zero]; decide
theorem mx_nan {d : Nat} (hn : isNaN d) : mxO d 0 = none := by unfold mxO; rw [order_none (.inl hn)]
theorem mx_gt {d : Nat} (ho : D.order d 0 = some .gt) : mxO d 0 = some d := by unfold mxO; rw [ho]
theorem mx_lt {d : Nat} (ho : D.order d 0 = some .lt) : mxO d 0 = some 0 := by unfold mxO; rw [ho]
theorem mx_eq {d : Nat} (ho : D.order d 0 = some .eq) : mxO d 0 = some (if (D.read d).neg then 0 else d) := by unfold mxO; rw [ho]
theorem mx_zero {d : Nat} (ho : D.order d 0 = some .eq) : D.read (if (D.read d).neg then 0 else d) = D.read 0 := by
  cases hg : (D.read d).neg
  · rw [if_neg (by simp)]; exact zero_of_eq ho hg
  · rw [if_pos rfl]
theorem arV_some (d : Nat) (q : Question) (w : World) : arV (some d) q w = d := rfl

/-- max(d, 0), d a number that is no NaN. -/
theorem max_some (d : Nat) (q : Question) (w : World) (hn : ¬ isNaN d) : (D.order d 0 = some .gt ∧ arV (mxO d 0) q w = d) ∨ (¬ isNaN d ∧ D.order d 0 ≠ some .gt ∧ D.read (arV (mxO d 0) q w) = D.read 0) := by
  obtain ⟨o, ho⟩ := order_some hn nan_zero
  cases o with
  | gt => rw [mx_gt ho, arV_some]; exact .inl ⟨ho, rfl⟩
  | lt => rw [mx_lt ho, arV_some]; exact .inr ⟨hn, (by rw [ho]; exact fun h => by cases h), rfl⟩
  | eq => rw [mx_eq ho, arV_some]; exact .inr ⟨hn, (by rw [ho]; exact fun h => by cases h), mx_zero ho⟩

theorem max_zero (o : Option Nat) (x y : Nat) (w w2 : World) :
    (o = none ∧ isNaN (arV (mxO (arV o (.nanBits .f64 x y) w) 0) (.nanMinMax .f64 true (arV o (.nanBits .f64 x y) w) 0) w2)) ∨
    ∃ d, o = some d ∧ ((isNaN d ∧ isNaN (arV (mxO (arV o (.nanBits .f64 x y) w) 0) (.nanMinMax .f64 true (arV o (.nanBits .f64 x y) w) 0) w2)) ∨ (D.order d 0 = some .gt ∧ arV (mxO (arV o (.nanBits .f64 x y) w) 0) (.nanMinMax .f64 true (arV o (.nanBits .f64 x y) w) 0) w2 = d) ∨
      (¬ isNaN d ∧ D.order d 0 ≠ some .gt ∧ D.read (arV (mxO (arV o (.nanBits .f64 x y) w) 0) (.nanMinMax .f64 true (arV o (.nanBits .f64 x y) w) 0) w2) = D.read 0)) := by
  cases o with
  | none =>
    left
    refine ⟨rfl, ?_⟩
    rw [mx_nan (arV_nan x y w)]
    exact mm_nan _ _ _ _
  | some d =>
    right
    refine ⟨d, rfl, ?_⟩
    rw [arV_some]
    by_cases hn : isNaN d
    · left
      rw [mx_nan hn]
      exact ⟨hn, mm_nan _ _ _ _⟩
    · exact .inr (max_some d _ w2 hn)

theorem spare_any (cap used : Nat) (w : World) : Calls Yba.prog 38 #[.float .f64 cap, .float .f64 used] w fun e w' => ∃ r, e = .returned (.float .f64 r) ∧ Sp cap used r ∧ ∃ n, w' = w.drewN n := by
  by_cases hi : D.order cap big = some .gt
  · refine (spare_inf cap used w hi).mono ?_
    rintro e w' ⟨rfl, rfl⟩
    exact ⟨cap, rfl, .inl ⟨hi, rfl⟩, 0, rfl⟩
  · refine (spare_fin cap used w (by simpa using hi)).mono ?_
    rintro e w' ⟨rfl, rfl⟩
    exact ⟨_, rfl, .inr ⟨hi, max_zero _ cap used w _⟩, drN_drN (arW_drew _ _) (arW_drew _ _)⟩

end Go.Proofs.Ybulketto
