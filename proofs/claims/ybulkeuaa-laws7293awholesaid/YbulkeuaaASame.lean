/-
  LawS7293AWhole: the two comparisons and 'incomplete', by their contracts.
-/
import Derived.Test.YbulkeuaaALeaf
namespace Go.Proofs.Ybulkeuaa
open Go.RowKit
attribute [local go_sem ↓] Go.wp_at_zero Go.wp_at_succ

theorem below_drN {B : Nat} {a w : World} (h : Below B a w) (n : Nat) : Below B a (w.drewN n) := ⟨h.os, h.tape, h.output, h.size, h.block⟩

set_option maxHeartbeats 1000000 in
/-- zzs7293arefseq, of a slice and of one that holds the same -/
theorem refseq_same (a0 sa : Option Addr) (b off len cap cc g : Nat) (V R L : Nat → ByteArray) (w : World) (hlen : len ≤ 1048576) (ha : 0 < len → a0 = some ⟨b, off, none⟩) (hn : sa.isNone = a0.isNone)
    (h0 : ∀ j, j < len → w.cell? ⟨b, off + j * 3, none⟩ = some (.string (V j)))
    (h1 : ∀ j, j < len → w.cell? ⟨b, off + j * 3 + 1, none⟩ = some (.string (R j)))
    (h2 : ∀ j, j < len → w.cell? ⟨b, off + j * 3 + 2, none⟩ = some (.string (L j)))
    (hs : 0 < len → sa = some ⟨g, 0, none⟩ ∧ St len len V R L g w) :
    Calls Yba.prog 7 #[.slice a0 len cap, .slice sa len cc] w fun e w' => e = .returned (.bool true) ∧ Below w.heap.size w w' := by
  have q22 : ∀ (w : World) (a : Option Addr) (n c n' c' : Nat), (binOp .eql 22 (.slice a n c) (.slice none n' c')).run Yba.prog w = .ok (.bool a.isNone) w := fun w a n c n' c' => eq_nil w a n c n' c' Yba.underlying22
  have q31 : ∀ (w : World) (a : Option Addr) (n c n' c' : Nat), (binOp .eql 31 (.slice a n c) (.slice none n' c')).run Yba.prog w = .ok (.bool a.isNone) w := fun w a n c n' c' => eq_nil w a n c n' c' Yba.underlying31
  have qx : (a0.isNone != a0.isNone) = false := by simp
  have HA := hid ha
  have H0 := hid h0
  have H1 := hid h1
  have H2 := hid h2
  have HS := hid hs
  have HN := hid hn
  clear ha h0 h1 h2 hs
  go_enter Yba.func7, Yba.ntmps7
  go_wp2_with fail
  go_loopw [5] (fun i wr => ∃ k : Nat, k ≤ len ∧ i = .int .i64 k ∧ Below w.heap.size w wr) (fun i _ => len - (intOf i).toNat)
  case atStart => exact ⟨0, Nat.zero_le _, rfl, Below.refl _ _⟩
  case round =>
    obtain ⟨k, hk, rfl, hb⟩ := hrel
    by_cases hkl : k < len
    · have hkl' : (k : Int) < (len : Int) := by omega
      have hk0 : (0 : Int) ≤ (k : Int) := by omega
      obtain rfl := HA.out (by omega)
      obtain ⟨rfl, hst⟩ := HS.out (by omega)
      have s0 := cell_later hb (H0.out k hkl)
      have s1 := cell_later hb (H1.out k hkl)
      have s2 := cell_later hb (H2.out k hkl)
      obtain ⟨t0, t1, t2⟩ := hst.read hkl
      have u0 := cell_later hb t0
      have u1 := cell_later hb t1
      have u2 := cell_later hb t2
      have n0 : ((V k).toList != (V k).toList) = false := by simp
      have n1 : ((R k).toList != (R k).toList) = false := by simp
      have n2 : ((L k).toList != (L k).toList) = false := by simp
      clear H0 H1 H2 HS HA HN t0 t1 t2 hst
      go_wp2_with fail
      go_quiet (fail)
      go_wp2_with fail
      go_roundw
      case rel => exact ⟨k + 1, by omega, by go_num, below_drN hb _⟩
      case measure => simp [intOf]; omega
    · go_wp2_with fail
      go_ret
      exact ⟨rfl, hb⟩

set_option maxHeartbeats 1000000 in
/-- zzs7293astrseq, of a slice and of one that holds the same -/
theorem strseq_same (a0 sa : Option Addr) (b off len cap cc g : Nat) (S : Nat → ByteArray) (w : World) (hlen : len ≤ 1048576) (ha : 0 < len → a0 = some ⟨b, off, none⟩) (hn : sa.isNone = a0.isNone)
    (h0 : ∀ j, j < len → w.cell? ⟨b, off + j, none⟩ = some (.string (S j)))
    (hs : 0 < len → sa = some ⟨g, 0, none⟩ ∧ Ss len len S g w) :
    Calls Yba.prog 8 #[.slice a0 len cap, .slice sa len cc] w fun e w' => e = .returned (.bool true) ∧ Below w.heap.size w w' := by
  have q23 : ∀ (w : World) (a : Option Addr) (n c n' c' : Nat), (binOp .eql 23 (.slice a n c) (.slice none n' c')).run Yba.prog w = .ok (.bool a.isNone) w := fun w a n c n' c' => eq_nil w a n c n' c' Yba.underlying23
  have qx : (a0.isNone != a0.isNone) = false := by simp
  have HA := hid ha
  have H0 := hid h0
  have HS := hid hs
  have HN := hid hn
  clear ha h0 hs
  go_enter Yba.func8, Yba.ntmps8
  go_wp2_with fail
  go_loopw [5] (fun i wr => ∃ k : Nat, k ≤ len ∧ i = .int .i64 k ∧ Below w.heap.size w wr) (fun i _ => len - (intOf i).toNat)
  case atStart => exact ⟨0, Nat.zero_le _, rfl, Below.refl _ _⟩
  case round =>
    obtain ⟨k, hk, rfl, hb⟩ := hrel
    by_cases hkl : k < len
    · have hkl' : (k : Int) < (len : Int) := by omega
      have hk0 : (0 : Int) ≤ (k : Int) := by omega
      obtain rfl := HA.out (by omega)
      obtain ⟨rfl, hst⟩ := HS.out (by omega)
      have s0 := cell_later hb (H0.out k hkl)
      have u0 := cell_later hb (hst.read hkl)
      have n0 : ((S k).toList != (S k).toList) = false := by simp
      clear H0 HS HA HN hst
      go_wp2_with fail
      go_quiet (fail)
      go_wp2_with fail
      go_roundw
      case rel => exact ⟨k + 1, by omega, by go_num, below_drN hb _⟩
      case measure => simp [intOf]; omega
    · go_wp2_with fail
      go_ret
      exact ⟨rfl, hb⟩

/-- The reading that the law lays. -/
abbrev Rd (id : ByteArray) (settled : Bool) (sa sb : Option Addr) (len m cc cd : Nat) : Array Value :=
  #[.string id, .int .u64 0, .int .i64 0, .pointer none, .string ⟨#[]⟩, .string ⟨#[]⟩, .slice none 0 0, .string ⟨#[]⟩, .string ⟨#[]⟩, .int .u64 0, .int .i64 0, .pointer none, .int .i64 0, .int .i64 0, .string ⟨#[]⟩, .string ⟨#[]⟩, .string ⟨#[]⟩, .int .i64 0, .slice none 0 0, .slice none 0 0, .string ⟨#[]⟩, .string ⟨#[]⟩, .slice none 0 0, .slice none 0 0, .string ⟨#[]⟩, .string ⟨#[]⟩, .slice none 0 0, .slice none 0 0, .pointer none, .bool settled, .slice sa len cc, .slice sb m cd]

set_option maxHeartbeats 4000000 in
set_option maxRecDepth 100000 in
/-- incomplete -/
theorem incomplete_any (id : ByteArray) (settled : Bool) (sa sb : Option Addr) (len m cc cd : Nat) (w : World) (hlen : len + m ≤ 1048576) :
    Calls Yba.prog 6 #[.agg (Rd id settled sa sb len m cc cd)] w fun e w' => Below w.heap.size w w' ∧ ((len = 0 ∧ m = 0 ∧ e = .returned .nilIface) ∨
      ((0 < len ∨ 0 < m) ∧ ∃ p, e = .returned (.iface 48 (.pointer (some ⟨p, 0, none⟩))) ∧ w'.cell? ⟨p, 0, none⟩ = some (.slice sa len cc) ∧ w'.cell? ⟨p, 1, none⟩ = some (.slice sb m cd))) := by
  by_cases h0 : len = 0
  · subst h0
    by_cases h1 : m = 0
    · subst h1
      go_enter Yba.func6, Yba.ntmps6
      go_wp2_with fail
      go_ret
      exact ⟨(Below.refl _ _).alloc (Nat.le_refl _) _, .inl ⟨trivial, trivial, rfl⟩⟩
    · have h1' : ((m : Int) == 0) = false := by simp; omega
      have h1'' : ¬ (m : Int) = 0 := by omega
      go_enter Yba.func6, Yba.ntmps6
      go_wp2_with fail
      go_ret
      exact ⟨((Below.refl _ _).alloc (Nat.le_refl _) _).alloc (by simp) _, .inr ⟨.inr (by omega), w.heap.size + 1, rfl, by simp, by simp⟩⟩
  · have h1' : ((len : Int) == 0) = false := by simp; omega
    have h1'' : ¬ (len : Int) = 0 := by omega
    go_enter Yba.func6, Yba.ntmps6
    go_wp2_with fail
    go_ret
    exact ⟨((Below.refl _ _).alloc (Nat.le_refl _) _).alloc (by simp) _, .inr ⟨.inl (by omega), w.heap.size + 1, rfl, by simp, by simp⟩⟩

end Go.Proofs.Ybulkeuaa
