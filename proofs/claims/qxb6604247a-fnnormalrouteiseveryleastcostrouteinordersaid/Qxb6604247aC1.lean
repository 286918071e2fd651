import Derived.Test.Qxb6604247aRows
import Derived.WalkKit
import Derived.WalkSpells
import Derived.WalkLawsBesides
import Derived.BigQuiet
import Derived.Deep.QuietTactic
namespace Go.Proofs.Qxb6604247a
open Go.RowKit
set_option linter.unusedVariables false
set_option linter.unusedSimpArgs false

theorem Hid.mk {p : Prop} (h : p) : Hid p := h

theorem eqlNil (t : TypeId) (e : TypeId) (ht : Try.prog.underlying t = some (.slice e)) (w : World) (a : Option Addr) (l c : Nat) : (binOp .eql t (.slice a l c) (.slice none 0 0)).run Try.prog w = .ok (.bool a.isNone) w := Lib.run_eql_slice_nil w t e a l c 0 0 ht

theorem mk0 (w : World) : (Instr.makeSlice 52 (.int .i64 0) (.int .i64 0)).run Try.prog w = .ok (.slice (some ⟨w.heap.size, 0, none⟩) 0 0) (w.alloc (.cells #[] 57)) := by kernel_rfl
theorem mk1 (w : World) : (Instr.makeSlice 52 (.int .i64 1) (.int .i64 1)).run Try.prog w = .ok (.slice (some ⟨w.heap.size, 0, none⟩) 1 1) (w.alloc (.cells #[.int .u8 0] 57)) := by kernel_rfl

set_option maxHeartbeats 400000 in
theorem toSt_nil (w : World) : Calls Try.prog 20 #[.slice none 0 0] w fun e w' => e = .returned (.slice none 0 0) ∧ w' = w := by
  have hel := eqlNil 43 5 Try.underlying43
  go_enter Try.func20, Try.ntmps20
  go_wp2
  go_ret
  exact ⟨rfl, rfl⟩

set_option maxHeartbeats 400000 in
theorem toSt_empty (b : Nat) (w : World) : Calls Try.prog 20 #[.slice (some ⟨b, 0, none⟩) 0 0] w fun e w' => e = .returned (.slice (some ⟨w.heap.size, 0, none⟩) 0 0) ∧ w' = w.alloc (.cells #[] 57) := by
  have hel := eqlNil 43 5 Try.underlying43
  have hmk := mk0
  go_enter Try.func20, Try.ntmps20
  go_wp2
  refine wp_loop_rounds 1 ?_
  rw [rounds_succ]
  go_wp2
  go_ret
  exact ⟨rfl, rfl⟩

set_option maxHeartbeats 400000 in
theorem toSt_one (b : Nat) (x : Int) (w : World) (hb : w.cell? ⟨b, 0, none⟩ = some (.int .u8 x)) : Calls Try.prog 20 #[.slice (some ⟨b, 0, none⟩) 1 1] w fun e w' => e = .returned (.slice (some ⟨w.heap.size, 0, none⟩) 1 1) ∧ w' = w.alloc (.cells #[.int .u8 x] 57) := by
  have hel := eqlNil 43 5 Try.underlying43
  have hmk := mk1
  have hbl := World.block_lt_of_cell? w _ hb
  go_enter Try.func20, Try.ntmps20
  go_wp2
  refine wp_loop_rounds 2 ?_
  rw [rounds_succ]
  go_wp2
  rw [rounds_succ]
  go_wp2
  go_ret
  exact ⟨rfl, rfl⟩

end Go.Proofs.Qxb6604247a
