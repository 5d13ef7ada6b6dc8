/-
  THE LEAVES OF LawS7203BWhole: bytes.Clone (5), bytes.Equal (11), zzs7203bsame (7), by contracts.
-/
import Derived.Test.YbulkesdoRows
import Derived.WalkKit
import Derived.WalkSpells
import Derived.WalkLawsBesides
namespace Go.Proofs.Ybulkesdo
open Go.RowKit Go.Lib

theorem Yba.info5 : (Yba.prog.info? 5).map (fun i => (i.zero, i.size, i.bytes)) = some (some (.int .u8 0), 1, 1) := by kernel_rfl

set_option maxHeartbeats 1000000 in
set_option maxRecDepth 100000 in
theorem clone_at (a : Addr) (n c : Nat) (xs : List Int) (w : World) (hx : xs.length = n) (hbig : n ≤ 140737488355328) (hc : ∀ i, i < n → w.cell? (a.add i) = some (.int .u8 (xs.getD i 0))) :
    Calls Yba.prog 5 #[.slice (some a) n c] w fun e w' => ∃ v', e = .returned v' ∧ w'.ownsRow w.heap.size 5 1 v' n (xs.map (Value.int .u8)) ∧ v' ≠ .slice none 0 0 ∧ Below w.heap.size w w' := by
  obtain ⟨i0, hi, hz0, hz1, hz2⟩ := info_parts Yba.info5
  have q22 : ∀ (w : World) (a : Option Addr) (n c n' c' : Nat), (binOp .eql 25 (.slice a n c) (.slice none n' c')).run Yba.prog w = .ok (.bool a.isNone) w := fun w a n c n' c' => Lib.run_eql_slice_nil w _ _ a n c n' c' Yba.underlying25
  have A : Hid (∀ i, i < n → w.cell? (a.add i) = some (.int .u8 (xs.getD i 0))) := hc
  clear hc
  go_enter Yba.func5, Yba.ntmps5
  go_wp2_with (at_builtin; refine wpList_append_own _ rfl _ _ 25 rfl w.heap.size 5 i0 (.int .u8 0) 1 1 Yba.underlying25 hi hz0 hz1 hz2 rfl (by decide) _ _ _ rfl (World.ownsRow_made w #[] 0 (Nat.le_refl _) (Nat.zero_le _) rfl) a n c (xs.map (Value.int .u8)) rfl ?qc1 ?qc2 ?qc3 ?qc4 ?qc5 ?qc6 ?_)
  case qc1 => simp; omega
  case qc2 =>
    intro j u hj
    have hjn : j < n := by
      have := (List.getElem?_eq_some_iff.1 hj).1
      simp at this
      omega
    refine Lib.cell?_alloc_some _ ?_
    rw [A.out j hjn]
    have e : (xs.map (Value.int .u8))[j]? = some (Value.int .u8 (xs.getD j 0)) := by simp [List.getD, List.getElem?_eq_getElem (show j < xs.length by omega)]
    rw [e] at hj
    exact hj
  case qc3 => intro u hu; obtain ⟨x, _, rfl⟩ := List.mem_map.1 hu; rfl
  case qc4 => unfold maxLen; omega
  case qc5 => omega
  case qc6 => simp
  intro v' w1 hown hgrow hnil
  go_wp2
  go_ret
  refine ⟨v', rfl, by simpa using hown, ?_, ?_⟩
  · first | exact hnil | (intro e; exact absurd (hnil.1 e).1 (by simp))
  · exact ((Below.refl _ w).alloc (Nat.le_refl _) _).grown hgrow (by simp) (by intro k hk; simp [Value.ownBlock] at hk; omega)

set_option maxHeartbeats 400000 in
theorem clone_nil (n c : Nat) (w : World) :
    Calls Yba.prog 5 #[.slice none n c] w fun e w' => e = .returned (.slice none 0 0) ∧ w' = w := by
  have q22 : ∀ (w : World) (a : Option Addr) (n c n' c' : Nat), (binOp .eql 25 (.slice a n c) (.slice none n' c')).run Yba.prog w = .ok (.bool a.isNone) w := fun w a n c n' c' => Lib.run_eql_slice_nil w _ _ a n c n' c' Yba.underlying25
  go_enter Yba.func5, Yba.ntmps5
  go_wp2
  go_ret
  exact ⟨rfl, rfl⟩

/-- What is known of a byte slice: no byte, or an address with its cells. -/
def BytesAt (w : World) (p : Option Addr) (n : Nat) (xs : List Int) : Prop :=
  xs.length = n ∧ (0 < n → ∃ b o, p = some ⟨b, o, none⟩ ∧ ∀ i, i < n → w.cell? ⟨b, o + i, none⟩ = some (.int .u8 (xs.getD i 0)))

theorem convert_zero (w : World) (p : Option Addr) (c : Nat) : (convert 25 9 (.slice p 0 c)).run Yba.prog w = .ok (.string ByteArray.empty) w := by
  rw [run_convert_bytes_string w 25 9 5 _ 0 c Yba.underlying25 Yba.underlying5 Yba.underlying9]
  cases p <;> simp [Conv.bytesToString, loadCells]
  all_goals rfl

theorem BytesAt.convert {w : World} {p : Option Addr} {n : Nat} {xs : List Int} (h : BytesAt w p n xs) (c : Nat) :
    (convert 25 9 (.slice p n c)).run Yba.prog w = .ok (.string (strOfNums xs)) w := by
  obtain ⟨hx, h⟩ := h
  rcases Nat.eq_zero_or_pos n with hn | hn
  · subst hn
    obtain rfl : xs = [] := List.eq_nil_of_length_eq_zero hx
    exact convert_zero w p c
  · obtain ⟨b, o, rfl, hc⟩ := h hn
    exact run_convert_bytes_arg (P := Yba.prog) w 25 5 Yba.underlying25 Yba.underlying5 b o n c xs hx hc 9 Yba.underlying9

set_option maxHeartbeats 400000 in
theorem equal_same (p q : Option Addr) (n c d : Nat) (xs : List Int) (w : World) (h1 : BytesAt w p n xs) (h2 : BytesAt w q n xs) :
    Calls Yba.prog 11 #[.slice p n c, .slice q n d] w fun e w' => e = .returned (.bool true) ∧ w' = w := by
  have g1 := h1.convert c
  have g2 := h2.convert d
  clear h1 h2
  go_enter Yba.func11, Yba.ntmps11
  go_wp2
  go_ret
  exact ⟨by simp, rfl⟩

set_option maxHeartbeats 400000 in
theorem same_true (p q : Option Addr) (n c d : Nat) (xs : List Int) (w : World) (h1 : BytesAt w p n xs) (h2 : BytesAt w q n xs) (hn : p.isNone = q.isNone) :
    Calls Yba.prog 7 #[.slice p n c, .slice q n d] w fun e w' => e = .returned (.bool true) ∧ w' = w := by
  have q22 : ∀ (w : World) (a : Option Addr) (n c n' c' : Nat), (binOp .eql 25 (.slice a n c) (.slice none n' c')).run Yba.prog w = .ok (.bool a.isNone) w := fun w a n c n' c' => Lib.run_eql_slice_nil w _ _ a n c n' c' Yba.underlying25
  have H := equal_same p q n c d xs w h1 h2
  clear h1 h2
  go_enter Yba.func7, Yba.ntmps7
  go_wp2_with (go_at_call 11; refine H.mono ?_; rintro e w' ⟨rfl, rfl⟩)
  go_ret
  exact ⟨by simp, rfl⟩

end Go.Proofs.Ybulkesdo
