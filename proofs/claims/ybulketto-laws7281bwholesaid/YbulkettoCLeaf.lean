/-
  LawS7281CWhole: the contracts of what it calls: TryLock (36, 19), zzs7281cval (17), the closure (16), zzs7281cdistinct (21), playing (18).
-/
import Derived.Test.YbulkettoRows
import Derived.Test.YbulkettoLocks
import Derived.Test.YbulkettoCMap
import Derived.WalkKit
import Derived.WalkSpells
import Derived.WalkSmall
import Derived.WalkLawsBesides
import Derived.LaidEql
import Derived.Deep.RegionHeld3
import Derived.Deep.DrawnRows
import Derived.Deep.QuietTactic
import Derived.BigQuiet
import Derived.Deep.DeepCutAuto
import Derived.Deep.CutBlock
namespace Go.Proofs.Ybulketto.C
open Go.RowKit Go.Maps Go.MuLone Go.Conc.Locks
attribute [local go_sem ↓] Go.wp_at_zero Go.wp_at_succ

theorem hid {P : Prop} (h : P) : Hid P := h
theorem cell_later {w w' : World} {a : Addr} {v : Value} (hb : Below w.heap.size w w') (h : w.cell? a = some v) : w'.cell? a = some v :=
  (hb.cell (World.block_lt_of_cell? w _ h)).trans h

/-! ### The lock -/
theorem convert116 {a : Addr} {v : Value} {w : World} (hc : w.cell? a = some v) : (convert 112 116 (.pointer (some a))).run Yba.prog w = .ok (.pointer (some a)) w := by
  obtain ⟨e, n, hsh, hlt, hsp⟩ := World.shape?_of_cell? hc
  have hge : ¬ (n ≤ a.off) := by omega
  have hz : (Go.sizeOf 67).run Yba.prog w = .ok 2 w := by kernel_rfl
  have step : (convert 112 116 (.pointer (some a))).run Yba.prog w = (do
      let s ← Conv.seenAt a
      let c ← cellsIn s.block
      let nothing := match c with
        | some cells => s.off ≥ cells && s.spot.isNone
        | none => false
      if (← Go.sizeOf 67) = 0 || nothing then pure (.pointer (some ⟨← newObj (.view s 67), 0, none⟩)) else pure (.pointer (some s)) : Sem Value).run Yba.prog w := by kernel_rfl
  rw [step]
  simp [Conv.seenAt, viewAt, cellsIn, hsh, hge, hz, Result.andThen]

set_option maxHeartbeats 800000 in
set_option maxRecDepth 100000 in
theorem itry_free (a : Addr) (w : World) (hc : w.cell? a = some (.int .i32 0)) (hz : w.frozen? a = false) :
    Calls Yba.prog 36 #[.pointer (some a)] w fun e w' => e = .returned (.bool true) ∧ w' = w.setCell a (.int .i32 1) := by
  have hd : ∀ w, (callFunc 44 #[]).run Yba.prog w = .ok (.value (.tuple #[])) w := disable Yba.muLib
  have he : ∀ w, (callFunc 45 #[]).run Yba.prog w = .ok (.value (.tuple #[])) w := enable Yba.muLib
  have ha : ∀ a w, (callFunc 47 #[.pointer (some a)]).run Yba.prog w = .ok (.value (.tuple #[])) w := acquire Yba.muLib
  have hcas := run_call_cas_hit (P := Yba.prog) Yba.func46 (by kernel_rfl) (by kernel_rfl) (by kernel_rfl) .i32 (by kernel_rfl) (y := 1) hc hz
  have hc' : (w.setCell a (.int .i32 1)).cell? a = some (.int .i32 1) := by simp [go_sem, hc]
  have hcv := convert116 hc'
  go_enter Yba.func36, Yba.ntmps36
  go_wp2
  go_ret
  exact ⟨rfl, rfl⟩
set_option maxHeartbeats 800000 in
set_option maxRecDepth 100000 in
theorem try_free (a : Addr) (w : World) (hc : w.cell? a = some (.int .i32 0)) (hz : w.frozen? a = false) :
    Calls Yba.prog 19 #[.pointer (some a)] w fun e w' => e = .returned (.bool true) ∧ w' = w.setCell a (.int .i32 1) := by
  have HI := hid (itry_free a w hc hz)
  go_enter Yba.func19, Yba.ntmps19
  go_wp2_with fail
  refine HI.out.mono ?_
  rintro e w1 ⟨rfl, rfl⟩
  go_wp2
  go_ret
  exact ⟨rfl, rfl⟩
theorem lock_at (a : Addr) (w : World) (hc : w.cell? a = some (.int .i32 0)) (hz : w.frozen? a = false) :
    Calls Yba.prog 28 #[.pointer (some a)] w fun e w' => e = .returned (.tuple #[]) ∧ w' = w.setCell a (.int .i32 1) := lock_free Yba.muLib a w hc hz
theorem unlock_at (a : Addr) (w : World) (hc : w.cell? a = some (.int .i32 1)) (hz : w.frozen? a = false) :
    Calls Yba.prog 20 #[.pointer (some a)] w fun e w' => e = .returned (.tuple #[]) ∧ w' = w.setCell a (.int .i32 0) := unlock_held Yba.muLib a w hc hz

/-! ### The small functions -/
set_option maxHeartbeats 400000 in
theorem count_any (C : Nat) (n : Int) (w : World) (hn : 0 ≤ n) (hn2 : n ≤ 10) (hc : w.cell? ⟨C, 0, none⟩ = some (.int .i64 n)) (hz : w.frozen? ⟨C, 0, none⟩ = false) :
    Calls Yba.prog 16 #[.pointer (some ⟨C, 0, none⟩)] w fun e w' => e = .returned (.tuple #[]) ∧ w' = w.setCell ⟨C, 0, none⟩ (.int .i64 (n + 1)) := by
  have hw : wrap64 (n + 1) = n + 1 := by unfold wrap64; omega
  go_enter Yba.func16, Yba.ntmps16
  go_wp2
  go_end0
  exact ⟨rfl, rfl⟩

def vAt (vl : Nat) (V : Nat → Bool) (i : Nat) : Bool := decide (i < vl) && V i

set_option maxHeartbeats 400000 in
theorem val_any (va : Option Addr) (vb vo vl vc : Nat) (V : Nat → Bool) (i : Nat) (w : World) (ha : 0 < vl → va = some ⟨vb, vo, none⟩) (hV : ∀ j, j < vl → w.cell? ⟨vb, vo + j, none⟩ = some (.bool (V j))) :
    Calls Yba.prog 17 #[.slice va vl vc, .int .i64 (i : Int)] w fun e w' => e = .returned (.bool (vAt vl V i)) ∧ w' = w := by
  by_cases h : i < vl
  · have h' : (i : Int) < (vl : Int) := by omega
    have h0 : (0 : Int) ≤ (i : Int) := by omega
    obtain rfl := ha (by omega)
    have c := hV i h
    go_enter Yba.func17, Yba.ntmps17
    go_wp2
    go_ret
    exact ⟨by simp [vAt, h], rfl⟩
  · have h' : ¬ (i : Int) < (vl : Int) := by omega
    go_enter Yba.func17, Yba.ntmps17
    go_wp2
    go_ret
    exact ⟨by simp [vAt, h], rfl⟩

/-! ### Distinct strings -/
/-- Whether x stands among the first j. -/
def seenTo (K : Nat → ByteArray) (x : ByteArray) : Nat → Bool
  | 0 => false
  | j + 1 => seenTo K x j || ((K j).toList == x.toList)
def dist (K : Nat → ByteArray) (drop : Bool) (skip : ByteArray) : Nat → Nat
  | 0 => 0
  | i + 1 => dist K drop skip i + if drop && ((K i).toList == skip.toList) then 0 else if seenTo K (K i) i then 0 else 1
theorem seenTo_mono {K : Nat → ByteArray} {x : ByteArray} {j : Nat} (h : seenTo K x j = true) : ∀ i, j ≤ i → seenTo K x i = true := by
  intro i hi
  induction i with
  | zero => obtain rfl : j = 0 := by omega
            exact h
  | succ i ih =>
    by_cases hj : j = i + 1
    · exact hj ▸ h
    · simp [seenTo, ih (by omega)]
theorem dist_le (K : Nat → ByteArray) (drop : Bool) (skip : ByteArray) : ∀ i, dist K drop skip i ≤ i
  | 0 => Nat.le_refl _
  | i + 1 => by have := dist_le K drop skip i; simp only [dist]; split <;> (try split) <;> omega

section
variable {K : Nat → ByteArray} {drop : Bool} {skip : ByteArray} {k : Nat}
theorem dist_skip (h : (drop && ((K k).toList == skip.toList)) = true) : dist K drop skip (k + 1) = dist K drop skip k := by simp only [dist, h, if_true]; rfl
theorem dist_seen (h : (drop && ((K k).toList == skip.toList)) = false) (hs : seenTo K (K k) k = true) : dist K drop skip (k + 1) = dist K drop skip k := by simp only [dist, h, hs, if_true]; rfl
theorem dist_new (h : (drop && ((K k).toList == skip.toList)) = false) (hs : seenTo K (K k) k = false) : dist K drop skip (k + 1) = dist K drop skip k + 1 := by simp only [dist, h, hs]; rfl
end

set_option maxHeartbeats 2000000 in
set_option maxRecDepth 100000 in
theorem distinct_any (sa : Option Addr) (g off n c : Nat) (K : Nat → ByteArray) (drop : Bool) (skip : ByteArray) (hn : n ≤ 4096) (ha : 0 < n → sa = some ⟨g, off, none⟩) (w : World)
    (hK : ∀ i, i < n → w.cell? ⟨g, off + i, none⟩ = some (.string (K i))) :
    Calls Yba.prog 21 #[.slice sa n c, .bool drop, .string skip] w fun e w' => e = .returned (.int .i64 (dist K drop skip n : Nat)) ∧ Below w.heap.size w w' := by
  have HA := hid ha
  have HK := hid hK
  clear ha hK
  go_enter Yba.func21, Yba.ntmps21
  go_wp2_with fail
  go_loopw [7, 8] (fun v i wr => ∃ k : Nat, k ≤ n ∧ i = .int .i64 k ∧ v = .int .i64 (dist K drop skip k : Nat) ∧ Below w.heap.size w wr) (fun _ i _ => n - (intOf i).toNat)
  case atStart => exact ⟨0, Nat.zero_le _, rfl, rfl, Below.refl _ _⟩
  case round =>
    obtain ⟨k, hk, rfl, rfl, hb⟩ := hrel
    by_cases hkl : k < n
    · have hkl' : (k : Int) < (n : Int) := by omega
      have hk0 : (0 : Int) ≤ (k : Int) := by omega
      obtain rfl := HA.out (by omega)
      have s0 := cell_later hb (HK.out k hkl)
      have HB := hid hb
      have hdl := dist_le K drop skip k
      generalize hdv : dist K drop skip k = dv at *
      have HDV := hid hdv
      clear hb hdv
      have hcase : (drop = true ∧ ((K k).toList == skip.toList) = true) ∨ (drop = false ∨ (drop = true ∧ ((K k).toList == skip.toList) = false)) := by
        cases drop <;> cases ((K k).toList == skip.toList) <;> simp
      rcases hcase with ⟨hdr, hq⟩ | hcase
      · have HST : Hid (dist K drop skip (k + 1) = dist K drop skip k) := dist_skip (by rw [hdr, hq]; rfl)
        rw [HDV.out] at HST
        subst hdr
        go_wp2_with fail
        go_roundw
        case rel => exact ⟨k + 1, by omega, by go_num, by rw [HST.out], HB.out⟩
        case measure => simp [intOf]; omega
      · have HSK : Hid ((drop && ((K k).toList == skip.toList)) = false) := by
          show _ = _
          rcases hcase with h | ⟨h, h2⟩
          · rw [h]; rfl
          · rw [h, h2]; rfl
        rcases hcase with hdr | ⟨hdr, hq⟩
        all_goals
          subst hdr
          go_wp2_with fail
          go_loopw [9, 10] (fun v i wx => ∃ q : Nat, q ≤ k ∧ i = .int .i64 q ∧ v = .bool false ∧ seenTo K (K k) q = false ∧ Below w.heap.size w wx) (fun _ i _ => k - (intOf i).toNat)
          case atStart => exact ⟨0, Nat.zero_le _, rfl, rfl, rfl, HB.out⟩
          case round =>
            obtain ⟨q, hq1, rfl, rfl, hsn, hb2⟩ := hrel
            by_cases hqk : q < k
            · have hqk' : (q : Int) < (k : Int) := by omega
              have hq0 : (0 : Int) ≤ (q : Int) := by omega
              have hqn : (q : Int) < (n : Int) := by omega
              have s1 := cell_later hb2 (HK.out k hkl)
              have s2 := cell_later hb2 (HK.out q (by omega))
              have HB2 := hid hb2
              have HSN := hid hsn
              clear hb2 hsn s0
              cases he : ((K q).toList == (K k).toList)
              · have HST : Hid (seenTo K (K k) (q + 1) = false) := by show _ = _; simp only [seenTo, HSN.out, he]; rfl
                go_wp2_with fail
                go_quiet (fail)
                go_wp2_with fail
                go_roundw
                case rel => exact ⟨q + 1, by omega, by go_num, rfl, HST.out, below_drewN HB2.out _⟩
                case measure => simp [intOf]; omega
              · have HST : Hid (seenTo K (K k) k = true) := seenTo_mono (j := q + 1) (by simp only [seenTo, he, Bool.or_true]) k (by omega)
                have HD : Hid (dist K _ skip (k + 1) = dist K _ skip k) := dist_seen HSK.out HST.out
                rw [HDV.out] at HD
                go_wp2_with fail
                go_quiet (fail)
                go_wp2_with fail
                go_roundw
                case rel => exact ⟨k + 1, by omega, by go_num, by rw [HD.out], below_drewN HB2.out _⟩
                case measure => simp [intOf]; omega
            · have hqk' : ¬ (q : Int) < (k : Int) := by omega
              obtain rfl : q = k := by omega
              have HB2 := hid hb2
              have HD : Hid (dist K _ skip (q + 1) = dist K _ skip q + 1) := dist_new HSK.out hsn
              rw [HDV.out] at HD
              clear hb2 hsn s0
              go_wp2_with fail
              go_roundw
              case rel => exact ⟨q + 1, by omega, by go_num, by rw [HD.out]; go_num, HB2.out⟩
              case measure => simp [intOf]; omega
    · have hnn : ¬ (k : Int) < (n : Int) := by omega
      obtain rfl : k = n := by omega
      have HB := hid hb
      clear hb
      go_wp2_with fail
      go_ret
      exact ⟨rfl, HB.out⟩

/-! ### playing -/
/-- The prefetcher's block: the lock's two cells, clip, cancel, left, fresh, spare. -/
def Pf (w : World) (B : Nat) (st : Int) (clip : ByteArray) (cancel : Value) (left : Bool) (fresh spare : Value) : Prop :=
  w.heap[B]? = some (.cells #[.int .i32 st, .int .u32 0, .string clip, cancel, .bool left, fresh, spare] 89 (0, 0))

end Go.Proofs.Ybulketto.C
