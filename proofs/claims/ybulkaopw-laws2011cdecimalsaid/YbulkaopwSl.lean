import Derived.Test.YbulkaopwBits
namespace Go.Proofs.Ybulkaopw
open Go.ChangeShapes Go.WideShapes Go.ChangeAt Go.RowKit
theorem ht50 : Yba.prog.underlying 50 = some (.array (Yba.prog.arrayLen 50) (Yba.prog.elem 50)) := by kernel_rfl
theorem al50 : Yba.prog.arrayLen 50 = 108 := by kernel_rfl
theorem el50 : Yba.prog.elem 50 = 5 := by kernel_rfl

theorem slice_lh (b f p : Nat) (h1 : f < p) (h2 : p ≤ 108) (w : World) : (Instr.sliceAt 50 (.pointer (some ⟨b, 0, none⟩)) (some (.int .i64 (f : Int))) (some (.int .i64 (p : Int))) none).run Yba.prog w = .ok (.slice (some ⟨b, f, none⟩) (p - f) (108 - f)) w := by
  rw [run_sliceAt_array_lh w 50 _ ht50 .i64 .i64 f p (by omega) (by omega) (by rw [al50]; omega), el50, al50]
  have z := Yba.sizeOf5
  simp [z, slicedAt, show ¬ (108 = f) by omega, add_plain]

theorem slice_l (b f : Nat) (h1 : f < 108) (w : World) : (Instr.sliceAt 50 (.pointer (some ⟨b, 0, none⟩)) (some (.int .i64 (f : Int))) none none).run Yba.prog w = .ok (.slice (some ⟨b, f, none⟩) (108 - f) (108 - f)) w := by
  rw [run_sliceAt_array_l w 50 _ ht50 .i64 f (by omega) (by rw [al50]; omega), el50, al50]
  have z := Yba.sizeOf5
  simp [z, slicedAt, show ¬ (108 = f) by omega, add_plain]
end Go.Proofs.Ybulkaopw
