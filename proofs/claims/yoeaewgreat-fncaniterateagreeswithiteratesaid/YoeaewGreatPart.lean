/-
  The address of a field that has no cells (an embedded empty struct), at the head of a block of the call's own. Own work over the seat's program.
-/
import Derived.Test.YoeaewGreatClone
namespace Go.Proofs.YoeaewGreat.Can
open Go.RowKit
set_option linter.unusedVariables false

theorem byteOf_head (W : World) (B T : Nat) (C : Array Value) (h : W.heap[B]? = some (.cells C T (0, 0))) (hc : Eaeg.prog.cellsOf T = 1) (hb : byteOfCell Eaeg.prog Eaeg.prog.depth T 0 = some 0) :
    (byteOf ⟨B, 0, none⟩).run Eaeg.prog W = .ok 0 W := by
  have hs : W.shape? B = some (T, C.size) := by unfold World.shape?; rw [h]
  simp [byteOf, noView, viewAt, hs, hc, hb, go_sem]

theorem partAt_head (W : World) (B T : Nat) (C : Array Value) (h : W.heap[B]? = some (.cells C T (0, 0))) (hc : Eaeg.prog.cellsOf T = 1) (hb : byteOfCell Eaeg.prog Eaeg.prog.depth T 0 = some 0) :
    (partAt ⟨B, 0, none⟩ 0 0).run Eaeg.prog W = .ok ⟨B, 0, none⟩ W := by
  simp [partAt, byteOf_head W B T C h hc hb, go_sem]

theorem cells34 : Eaeg.prog.cellsOf 34 = 1 := by kernel_rfl
theorem cells38 : Eaeg.prog.cellsOf 38 = 1 := by kernel_rfl
theorem cells41 : Eaeg.prog.cellsOf 41 = 1 := by kernel_rfl
theorem cells46 : Eaeg.prog.cellsOf 46 = 1 := by kernel_rfl
theorem first34 : byteOfCell Eaeg.prog Eaeg.prog.depth 34 0 = some 0 := by kernel_rfl
theorem first38 : byteOfCell Eaeg.prog Eaeg.prog.depth 38 0 = some 0 := by kernel_rfl
theorem first41 : byteOfCell Eaeg.prog Eaeg.prog.depth 41 0 = some 0 := by kernel_rfl
theorem first46 : byteOfCell Eaeg.prog Eaeg.prog.depth 46 0 = some 0 := by kernel_rfl

/-- 'float64(v)': some float; the walk need not know which. -/
theorem float_of (v : Int) : ∃ f, ∀ w : World, (convert 2 36 (.int .i64 v)).run Eaeg.prog w = .ok (.float .f64 f) w :=
  ⟨_, fun w => by simp [convert, run_underlying Eaeg.underlying2, run_underlying Eaeg.underlying36, Conv.intToFloat]; rfl⟩
end Go.Proofs.YoeaewGreat.Can
