/-
  fmt.Errorf (15) BY CONTRACTS: the error is a new fmt.wrapError that wraps the sentinel; its text is whatever fmt gives.
-/
import Derived.Test.YbulkettaFmtIs
namespace Go.Proofs.YbulkettaFmt
open Go.RowKit Go.Extern.Stop Go.Stop Go.Extern

theorem Ybaf.call17 (args : Array Value) (w : World) : (callFunc 17 args).run Ybaf.prog w = ((FmtStop.errorf #[9, 109] #[71] args).run Ybaf.prog w).andThen fun v w' => .ok (.value v) w' :=
  run_callFunc_extern Ybaf.func17 (by kernel_rfl) (by kernel_rfl) (by kernel_rfl) (by kernel_rfl) args w
theorem Ybaf.guard (name : String) (w : World) : (FmtStop.guard name).run Ybaf.prog w = .ok () w := by kernel_rfl
theorem Ybaf.fmtC : FmtStop.printed? ⟨#[37, 119, 32, 37, 115]⟩ 2 = some [(0, 119, false), (1, 115, false)] := by kernel_rfl
theorem Ybaf.fmtCr (w : World) : (FmtDoors.printed ⟨#[37, 119, 32, 37, 115]⟩ 2).run Ybaf.prog w = .ok [(0, 119, false), (1, 115, false)] w := by kernel_rfl
theorem Ybaf.fmtB : FmtStop.printed? ⟨#[37, 115, 32, 37, 115, 32, 105, 115, 32, 37, 119]⟩ 3 = some [(0, 115, false), (1, 115, false), (2, 119, false)] := by kernel_rfl
theorem Ybaf.fmtBr (w : World) : (FmtDoors.printed ⟨#[37, 115, 32, 37, 115, 32, 105, 115, 32, 37, 119]⟩ 3).run Ybaf.prog w = .ok [(0, 115, false), (1, 115, false), (2, 119, false)] w := by kernel_rfl
theorem Ybaf.ptr111 (w : World) : (FmtStop.ptrTo "errors.errorString").run Ybaf.prog w = .ok 111 w := by kernel_rfl
theorem Ybaf.elem111 (w : World) : (elemOf 111).run Ybaf.prog w = .ok 113 w := by kernel_rfl
theorem Ybaf.isError111 (w : World) : (FmtDoors.textMethod 111 "Error").run Ybaf.prog w = .ok true w := by kernel_rfl
theorem Ybaf.ptr110 (w : World) : (FmtStop.ptrTo "fmt.wrapError").run Ybaf.prog w = .ok 110 w := by kernel_rfl
theorem Ybaf.elem110 (w : World) : (elemOf 110).run Ybaf.prog w = .ok 176 w := by kernel_rfl
theorem Ybaf.isError110 (w : World) : (FmtDoors.textMethod 110 "Error").run Ybaf.prog w = .ok true w := by kernel_rfl

/-- The type's name, letter by letter. -/
def nm111 : String := String.ofList ['*', 'e', 'r', 'r', 'o', 'r', 's', '.', 'e', 'r', 'r', 'o', 'r', 'S', 't', 'r', 'i', 'n', 'g']
theorem type111 (w : World) : (typeStr 111).run Ybaf.prog w = .ok nm111 w := by kernel_rfl

/-- A sentinel as an operand of the verb w: it is read out of memory. -/
theorem op_sentinel (name : String) (a : Addr) (s : ByteArray) (w : World) (hc : w.cell? a = some (.string s)) :
    (FmtStop.operand name true 119 false (.iface 111 (.pointer (some a)))).run Ybaf.prog w = .ok (14 :: FmtStop.pack nm111.toUTF8.data.toList, s.data.toList) w := by
  have h1 := type111 w
  have d2 : Ybaf.t111.desc = .pointer 113 := rfl
  have d3 : Ybaf.t113.desc = .named "errors.errorString" 112 := rfl
  simp [FmtStop.operand, h1, d2, d3, run_load, hc]
theorem op_string (name : String) (s : ByteArray) (w : World) :
    (FmtStop.operand name true 115 false (.iface 9 (.string s))).run Ybaf.prog w = .ok ([12, 6, 0, 0, 0, 0, 0, 0, 0, 115, 116, 114, 105, 110, 103], FmtStop.pack s.data.toList) w := by kernel_rfl

set_option maxHeartbeats 400000 in
set_option maxRecDepth 100000 in
theorem errorf_C (F : Interp) (b : Nat) (a : Addr) (s t : ByteArray) (w : World) (hF : F.answers w.tape) (hc0 : w.cell? ⟨b, 0, none⟩ = some (.iface 111 (.pointer (some a)))) (hc1 : w.cell? ⟨b, 1, none⟩ = some (.iface 9 (.string s))) (ht : w.cell? a = some (.string t)) :
    Calls Ybaf.prog 15 #[.string ⟨#[37, 119, 32, 37, 115]⟩, .slice (some ⟨b, 0, none⟩) 2 2] w fun e w' =>
      e = .returned (.iface 110 (.pointer (some ⟨w.heap.size, 0, none⟩))) ∧ (∃ T, w'.heap[w.heap.size]? = some (.cells #[.string T, .iface 111 (.pointer (some a))] 176 (0, 0))) ∧ Below w.heap.size w w' := by
  have hF' := answers_open hF
  have k17 := Ybaf.call17
  have kg := Ybaf.guard
  have kf := Ybaf.fmtC
  have kr := Ybaf.fmtCr
  have k1 := Ybaf.ptr111
  have k2 := Ybaf.elem111
  have k3 := Ybaf.isError111
  have k4 := Ybaf.ptr110
  have k5 := Ybaf.elem110
  have k6 := Ybaf.isError110
  have hop := op_sentinel "fmt.errorf" a t w ht
  have hos := op_string "fmt.errorf" s
  go_enter Ybaf.func15, Ybaf.ntmps15
  go_wp2
  go_ret
  exact ⟨rfl, ⟨_, heap_alloc_new w _⟩, ((Below.refl _ _).alloc (Nat.le_refl _) _).drew⟩

set_option maxHeartbeats 400000 in
set_option maxRecDepth 100000 in
theorem errorf_B (F : Interp) (b : Nat) (a : Addr) (s0 s1 t : ByteArray) (w : World) (hF : F.answers w.tape) (hc0 : w.cell? ⟨b, 0, none⟩ = some (.iface 9 (.string s0))) (hc1 : w.cell? ⟨b, 1, none⟩ = some (.iface 9 (.string s1))) (hc2 : w.cell? ⟨b, 2, none⟩ = some (.iface 111 (.pointer (some a)))) (ht : w.cell? a = some (.string t)) :
    Calls Ybaf.prog 15 #[.string ⟨#[37, 115, 32, 37, 115, 32, 105, 115, 32, 37, 119]⟩, .slice (some ⟨b, 0, none⟩) 3 3] w fun e w' =>
      e = .returned (.iface 110 (.pointer (some ⟨w.heap.size, 0, none⟩))) ∧ (∃ T, w'.heap[w.heap.size]? = some (.cells #[.string T, .iface 111 (.pointer (some a))] 176 (0, 0))) ∧ Below w.heap.size w w' := by
  have hF' := answers_open hF
  have k17 := Ybaf.call17
  have kg := Ybaf.guard
  have kf := Ybaf.fmtB
  have kr := Ybaf.fmtBr
  have k1 := Ybaf.ptr111
  have k2 := Ybaf.elem111
  have k3 := Ybaf.isError111
  have k4 := Ybaf.ptr110
  have k5 := Ybaf.elem110
  have k6 := Ybaf.isError110
  have hop := op_sentinel "fmt.errorf" a t w ht
  have hos := op_string "fmt.errorf" s0
  have hos1 := op_string "fmt.errorf" s1
  go_enter Ybaf.func15, Ybaf.ntmps15
  go_wp2
  go_ret
  exact ⟨rfl, ⟨_, heap_alloc_new w _⟩, ((Below.refl _ _).alloc (Nat.le_refl _) _).drew⟩

end Go.Proofs.YbulkettaFmt
