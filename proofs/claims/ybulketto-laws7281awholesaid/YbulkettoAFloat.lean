/-
  LawS7281AWhole: THE PLAIN FACTS ON FLOATS: no Go in sight.
-/
import Ieee.Arith
import GoSem.Core.Float
namespace Go.Proofs.Ybulketto
open Go

def D : Ieee.Format := Ieee.double
theorem fmt64 : FloatKind.f64.format = D := rfl

def isNaN (x : Nat) : Prop := (D.read x).isNaN = true

theorem order_none {x y : Nat} (h : isNaN x ∨ isNaN y) : D.order x y = none := by
  unfold isNaN at h
  unfold Ieee.Format.order
  generalize D.read x = a at *
  generalize D.read y = b at *
  cases a <;> cases b <;> simp_all [Ieee.Datum.isNaN, Ieee.Datum.order]

theorem order_some {x y : Nat} (hx : ¬ isNaN x) (hy : ¬ isNaN y) : ∃ o, D.order x y = some o := by
  unfold isNaN at hx hy
  unfold Ieee.Format.order
  generalize D.read x = a at *
  generalize D.read y = b at *
  cases a <;> cases b <;> simp_all [Ieee.Datum.isNaN, Ieee.Datum.order]

theorem order_self {x : Nat} (hx : ¬ isNaN x) : D.order x x = some .eq := by
  unfold isNaN at hx
  unfold Ieee.Format.order
  generalize D.read x = a at *
  cases a <;> simp_all [Ieee.Datum.isNaN, Ieee.Datum.order]

/-- 'x != x' says 'a NaN'. -/
theorem neq_self_iff (x : Nat) : (D.order x x != some .eq) = true ↔ isNaN x := by
  by_cases h : isNaN x
  · simp [order_none (.inl h), h]
  · simp [order_self h, h]

theorem read_zero : D.read 0 = .number false 0 D.leastPlace := by decide
theorem read_inf : D.read 9218868437227405312 = .infinity false := by decide

theorem not_nan_of_order {x y : Nat} {o : Ordering} (h : D.order x y = some o) : ¬ isNaN x ∧ ¬ isNaN y := by
  refine ⟨fun hx => ?_, fun hy => ?_⟩
  · rw [order_none (.inl hx)] at h; cases h
  · rw [order_none (.inr hy)] at h; cases h

/-- What is read as greater than nought: a positive number or infinity. -/
theorem pos_of_gt {x : Nat} (h : D.order x 0 = some .gt) : (∃ m e, D.read x = .number false m e ∧ m ≠ 0) ∨ D.read x = .infinity false := by
  unfold Ieee.Format.order at h
  rw [read_zero] at h
  generalize D.read x = a at *
  cases a with
  | nan s t => simp [Ieee.Datum.order] at h
  | infinity s => cases s <;> simp_all [Ieee.Datum.order]
  | number s m e =>
    simp only [Ieee.Datum.order, Option.some.injEq] at h
    rw [Int.compare_eq_gt] at h
    cases s with
    | true =>
      simp only [Ieee.signed, if_true, Bool.false_eq_true, if_false, Nat.zero_shiftLeft] at h
      generalize m <<< (e - min e D.leastPlace).toNat = X at h
      omega
    | false =>
      refine .inl ⟨m, e, rfl, fun hm => ?_⟩
      subst hm
      simp [Ieee.signed] at h

/-- What is read as equal to nought and has no sign is read as nought is. -/
theorem zero_of_eq {x : Nat} (h : D.order x 0 = some .eq) (hn : (D.read x).neg = false) : D.read x = D.read 0 := by
  unfold Ieee.Format.order at h
  rw [read_zero] at h ⊢
  unfold Ieee.Format.read at *
  dsimp only at *
  split at h
  · rename_i hr
    rw [if_pos hr] at hn ⊢
    simp only [Ieee.Datum.neg] at hn
    simp only [Ieee.Datum.order, Option.some.injEq, Std.compare_eq_iff_eq] at h
    simp [Ieee.signed, hn] at h
    have h' : x % D.signWeight = 0 := by omega
    rw [hn, h']
  · split at h
    · rename_i hr1 hr
      rw [if_neg hr1, if_pos hr] at hn
      simp only [Ieee.Datum.neg] at hn
      simp only [Ieee.Datum.order, Option.some.injEq, Std.compare_eq_iff_eq] at h
      simp only [Ieee.signed, hn, Bool.false_eq_true, if_false, Nat.shiftLeft_eq] at h
      have hb : 0 < D.binade := Nat.two_pow_pos _
      have h' : (D.binade + x % D.signWeight % D.binade) * 2 ^ (D.leastPlace + ((x % D.signWeight / D.binade - 1 : Nat) : Int) - min (D.leastPlace + ((x % D.signWeight / D.binade - 1 : Nat) : Int)) D.leastPlace).toNat = 0 := by omega
      rcases Nat.mul_eq_zero.1 h' with h1 | h1
      · omega
      · have := Nat.two_pow_pos (D.leastPlace + ((x % D.signWeight / D.binade - 1 : Nat) : Int) - min (D.leastPlace + ((x % D.signWeight / D.binade - 1 : Nat) : Int)) D.leastPlace).toNat
        omega
    · split at h
      · simp [Ieee.Datum.order] at h
        split at h <;> cases h
      · simp [Ieee.Datum.order] at h

/-- Greater than the greatest finite number: greater than nought. -/
theorem gt_of_inf {x : Nat} (h : D.order x 9218868437227405311 = some .gt) : D.order x 0 = some .gt := by
  have r1 : D.read 9218868437227405311 = .number false 9007199254740991 971 := by decide
  unfold Ieee.Format.order at h ⊢
  rw [r1] at h
  rw [read_zero]
  generalize D.read x = a at *
  cases a with
  | nan s t => simp [Ieee.Datum.order] at h
  | infinity s => cases s <;> simp_all [Ieee.Datum.order]
  | number s m e =>
    simp only [Ieee.Datum.order, Option.some.injEq] at h ⊢
    rw [Int.compare_eq_gt] at h ⊢
    simp only [Ieee.signed, Bool.false_eq_true, if_false, Nat.zero_shiftLeft] at h ⊢
    have hmm : m ≠ 0 := by
      intro hm
      subst hm
      simp only [Nat.zero_shiftLeft] at h
      generalize 9007199254740991 <<< (971 - min e 971).toNat = Y at h
      cases s <;> simp at h <;> omega
    cases s with
    | true =>
      simp only [if_true] at h
      generalize m <<< (e - min e 971).toNat = X at h
      generalize 9007199254740991 <<< (971 - min e 971).toNat = Y at h
      omega
    | false =>
      simp only [Bool.false_eq_true, if_false, Nat.shiftLeft_eq] at h ⊢
      have := Nat.mul_pos (Nat.pos_of_ne_zero hmm) (Nat.two_pow_pos (e - min e D.leastPlace).toNat)
      omega

theorem div_zero_pos {x : Nat} (h : D.order x 0 = some .gt) : D.div x 0 = some 9218868437227405312 := by
  unfold Ieee.Format.div
  rw [read_zero]
  rcases pos_of_gt h with ⟨m, e, hr, hm⟩ | hr
  · rw [hr]; simp [Ieee.Datum.quotient, hm]; decide
  · rw [hr]; simp [Ieee.Datum.quotient]; decide

theorem div_zero_zero {x : Nat} (h : D.read x = D.read 0) : D.div x 0 = none := by
  unfold Ieee.Format.div
  rw [h, read_zero]
  simp [Ieee.Datum.quotient]

theorem div_nan {x y : Nat} (h : isNaN x) : D.div x y = none := by
  unfold isNaN at h
  unfold Ieee.Format.div
  generalize D.read x = a at *
  cases a <;> simp_all [Ieee.Datum.isNaN, Ieee.Datum.quotient]

theorem div_congr {x x' : Nat} (h : D.read x = D.read x') (y : Nat) : D.div x y = D.div x' y := by
  unfold Ieee.Format.div; rw [h]

theorem isNaN_congr {x x' : Nat} (h : D.read x = D.read x') : isNaN x ↔ isNaN x' := by unfold isNaN; rw [h]

theorem zero_not_gt {x : Nat} (h : D.read x = D.read 0) : D.order x 0 = some .eq := by
  unfold Ieee.Format.order; rw [h, read_zero]; decide

/-- The bits that a draw of a NaN gives are a NaN's. -/
theorem nan_bits (t : Nat) : isNaN ((t % 2) * 2 ^ 63 + 0x7ff0000000000000 + 1 + (t / 2) % (2 ^ 52 - 1)) := by
  unfold isNaN
  have e1 : D.signWeight = 2 ^ 63 := by decide
  have e2 : D.binade = 2 ^ 52 := by decide
  have e3 : D.infRung = 0x7ff0000000000000 := by decide
  unfold Ieee.Format.read
  dsimp only
  rw [e1, e2, e3]
  have hm : (t / 2) % (2 ^ 52 - 1) < 2 ^ 52 - 1 := Nat.mod_lt _ (by decide)
  generalize (t / 2) % (2 ^ 52 - 1) = q at *
  have h2 : t % 2 < 2 := Nat.mod_lt _ (by decide)
  generalize t % 2 = b at *
  have hr : (b * 2 ^ 63 + 0x7ff0000000000000 + 1 + q) % 2 ^ 63 = 0x7ff0000000000000 + 1 + q := by omega
  rw [hr, if_neg (by omega), if_neg (by omega), if_neg (by omega)]
  rfl

theorem nan_const : isNaN 9221120237041090561 := by unfold isNaN; decide

end Go.Proofs.Ybulketto
