/-
  LawS7281AWhole: the law's own reckoning of a side (7).
-/
import Derived.Test.YbulkettoALeaf
import Derived.Deep.DeepCutAuto
import Derived.Deep.CutBlock
namespace Go.Proofs.Ybulketto
open Go.RowKit

theorem neq_nan {x : Nat} (h : isNaN x) : (FloatKind.f64.format.order x x != some Ordering.eq) = true := (neq_self_iff x).2 h
theorem neq_num {x : Nat} (h : ¬ isNaN x) : (FloatKind.f64.format.order x x != some Ordering.eq) = false := by
  cases hb : (FloatKind.f64.format.order x x != some Ordering.eq)
  · rfl
  · exact absurd ((neq_self_iff x).1 hb) h

set_option maxHeartbeats 1000000 in
theorem aside_any (cap used : Nat) (n : Int) (h0 : 0 ≤ n) (h1 : n ≤ 65535) (w : World) :
    Calls Yba.prog 7 #[.float .f64 cap, .float .f64 used, .int .i64 n] w fun e w' => ∃ q, e = .returned (.float .f64 q) ∧ AsideRel cap used n q ∧ ∃ m, w' = w.drewN m := by
  obtain ⟨bb, hbb⟩ : ∃ bb, bb = (D.order cap big == some .gt) := ⟨_, rfl⟩
  have HB := isInf_big cap w
  rw [← hbb] at HB
  have HB' := hid HB
  have HBB := hid hbb
  clear HB hbb
  go_enter Yba.func7, Yba.ntmps7
  go_upto_if 10 with (go_at_call 25; refine HB'.out.mono ?_; rintro e w' ⟨rfl, hw⟩; have hw2 := hw.symm; subst hw2)
  go_cut [7] (fun v wx => ∃ s, v = .float .f64 s ∧ Sp cap used s ∧ ∃ m, wx = w.drewN m)
  case first =>
    cases bb
    · have hi : D.order cap big ≠ some .gt := by have := HBB.out; simpa using this.symm
      have HI := hid hi
      have hs := run_sub cap used
      obtain ⟨k, hk⟩ := arW_drew (D.sub cap used) w
      obtain ⟨dd, hdd⟩ : ∃ dd, dd = arV (D.sub cap used) (.nanBits .f64 cap used) w := ⟨_, rfl⟩
      have hs' : (binOp .sub 22 (.float .f64 cap) (.float .f64 used)).run Yba.prog w = .ok (.float .f64 dd) (w.drewN k) := by rw [hs, hdd, hk]
      have HK : Hid (D.sub cap used = some dd ∨ (D.sub cap used = none ∧ isNaN dd)) := by
        rw [hdd]
        cases hd : D.sub cap used with
        | none => exact .inr ⟨rfl, arV_nan _ _ _⟩
        | some d => exact .inl rfl
      clear hs hk hdd HBB hi
      by_cases hn : isNaN dd
      · have HN := hid hn
        have hne := neq_nan hn
        clear hn
        go_wp2_with (go_at_call 8; refine (nan_any _).mono ?_; rintro e w' ⟨rfl, hw⟩; have hw2 := hw.symm; subst hw2)
        go_meet
        refine ⟨_, rfl, .inr ⟨HI.out, ?_⟩, k, rfl⟩
        rcases HK.out with h | ⟨h, _⟩
        · exact .inr ⟨dd, h, .inl ⟨HN.out, nan_const⟩⟩
        · exact .inl ⟨h, nan_const⟩
      · have HN := hid hn
        have hne := neq_num hn
        have HS : Hid (D.sub cap used = some dd) := by
          rcases HK.out with h | ⟨_, h⟩
          · exact h
          · exact absurd h hn
        clear hn HK
        by_cases hg : D.order dd 0 = some .gt
        · have HG := hid hg
          have hge : (FloatKind.f64.format.order dd 0 == some Ordering.gt) = true := by rw [fmt64, hg]; rfl
          clear hg
          go_wp2_with fail
          go_meet
          exact ⟨dd, rfl, .inr ⟨HI.out, .inr ⟨dd, HS.out, .inr (.inl ⟨HG.out, rfl⟩)⟩⟩, k, rfl⟩
        · have HG := hid hg
          have hge : (FloatKind.f64.format.order dd 0 == some Ordering.gt) = false := by rw [fmt64]; simpa using hg
          clear hg
          go_wp2_with fail
          go_meet
          exact ⟨0, rfl, .inr ⟨HI.out, .inr ⟨dd, HS.out, .inr (.inr ⟨HN.out, HG.out, rfl⟩)⟩⟩, k, rfl⟩
    · have hi : D.order cap big = some .gt := by have := HBB.out; simpa using this.symm
      have HI := hid hi
      clear hi HBB
      go_wp2_with fail
      go_meet
      exact ⟨cap, rfl, .inl ⟨HI.out, rfl⟩, 0, rfl⟩
  case rest =>
    obtain ⟨s, rfl, hsp, k, rfl⟩ := hcut
    have HSP := hid hsp
    clear hsp HBB HB'
    by_cases hn : n = 0
    · subst hn
      by_cases hg : D.order s 0 = some .gt
      · have HG := hid hg
        have hge : (FloatKind.f64.format.order s 0 == some Ordering.gt) = true := by rw [fmt64, hg]; rfl
        clear hg
        go_wp2_with (go_at_call 22; refine (inf_any _).mono ?_; rintro e w' ⟨rfl, hw⟩; have hw2 := hw.symm; subst hw2)
        go_ret
        exact ⟨_, rfl, ⟨s, HSP.out, fun _ => .inl ⟨HG.out, rfl⟩, fun h => absurd rfl h⟩, k, rfl⟩
      · have HG := hid hg
        have hge : (FloatKind.f64.format.order s 0 == some Ordering.gt) = false := by rw [fmt64]; simpa using hg
        clear hg
        go_wp2_with (go_at_call 8; refine (nan_any _).mono ?_; rintro e w' ⟨rfl, hw⟩; have hw2 := hw.symm; subst hw2)
        go_ret
        exact ⟨_, rfl, ⟨s, HSP.out, fun _ => .inr ⟨HG.out, nan_const⟩, fun h => absurd rfl h⟩, k, rfl⟩
    · have hn0 : (n == 0) = false := by simpa using hn
      have HN := hid hn
      have hq := run_quo s (floatOfInt .f64 n)
      clear hn
      go_wp2_with fail
      go_ret
      refine ⟨_, rfl, ⟨s, HSP.out, fun h => absurd h HN.out, fun _ => ?_⟩, drN_drN ⟨k, rfl⟩ (arW_drew _ _)⟩
      unfold quoOf
      cases hd : D.div s (floatOfInt .f64 n) with
      | none => exact .inr ⟨rfl, arV_nan _ _ _⟩
      | some d => exact .inl rfl

end Go.Proofs.Ybulketto
