import Derived.Test.YbulkaopwRows
import Derived.WalkKit
import Derived.ProofKit
import Derived.OpenShut
import Derived.Below
import Derived.WalkSpells
import Derived.WalkLawsBesides
import Derived.LaidEqlPtr
import Derived.RegionTactic
import Derived.BigRegion
import Derived.Deep.QuietTactic
import Derived.BigQuiet
namespace Go.Proofs.Ybulkaopw
open Go.ChangeShapes Go.WideShapes Go.ChangeAt Go.RowKit
set_option linter.unusedVariables false

theorem neq_same25 (a : Addr) (w : World) : (binOp .neq 25 (.pointer (some a)) (.pointer (some a))).run Yba.prog w = .ok (.bool false) w := by
  obtain ⟨j, hj, _⟩ : ∃ j, Yba.prog.info? 2 = some j ∧ True := by
    cases h : Yba.prog.info? 2 with
    | none => exact absurd ((show (Yba.prog.info? 2).isSome = true by kernel_rfl)) (by rw [h]; simp)
    | some j => exact ⟨j, rfl, trivial⟩
  have h : ∀ d : Nat, (Op.equalIn (d + 1) 25 (.pointer (some a)) (.pointer (some a))).run Yba.prog w = .ok true w := fun d => by
    simp [Op.equalIn, run_underlying Yba.underlying25, sizeOf, typeInfo, hj, run_sameAddr_same]
  simp only [binOp]
  simp [Op.equal, Op.maxDepth, h 9999]

set_option maxRecDepth 100000 in
set_option maxHeartbeats 1000000 in
theorem counts_any (C : Nat) (w : World) :
    Calls Yba.prog 6 #[.pointer (some ⟨C, 0, none⟩)] w fun e w' => e = .returned (.agg #[.string { data := #[100, 101, 112, 116, 104] }, .pointer (some ⟨C, 11, none⟩), .int .i64 9223372036854775807, .string { data := #[108, 105, 109, 105, 116] }, .pointer (some ⟨C, 12, none⟩), .int .i64 100, .string { data := #[102, 114, 111, 109] }, .pointer (some ⟨C, 13, none⟩), .int .i64 0, .string { data := #[116, 111] }, .pointer (some ⟨C, 14, none⟩), .int .i64 9223372036854775807]) ∧ ∃ X, w' = (w.alloc (.cells X 28)).drew := by
  go_enter Yba.func6, Yba.ntmps6
  go_wp2
  go_region
  go_wp2
  refine bodyPost_ret (v := .agg #[.string { data := #[100, 101, 112, 116, 104] }, .pointer (some ⟨C, 11, none⟩), .int .i64 9223372036854775807, .string { data := #[108, 105, 109, 105, 116] }, .pointer (some ⟨C, 12, none⟩), .int .i64 100, .string { data := #[102, 114, 111, 109] }, .pointer (some ⟨C, 13, none⟩), .int .i64 0, .string { data := #[116, 111] }, .pointer (some ⟨C, 14, none⟩), .int .i64 9223372036854775807]) (by simp [results, Yba.results6, go_sem]) rfl ⟨rfl, _, rfl⟩

set_option maxRecDepth 100000 in
set_option maxHeartbeats 1600000 in
theorem table_walk (a0 a1 a2 a3 : Int) (s : ByteArray) (w : World) :
    Calls Yba.prog 3 #[.int .i64 a0, .int .i64 a1, .int .i64 a2, .int .i64 a3, .string s] w fun e w' => e = .returned (.bool true) ∧ Grown w w' := by
  have hne := neq_same25
  go_enter Yba.func3, Yba.ntmps3
  go_wp2_with fail
  refine (counts_any _ _).mono ?_
  rintro e w1 ⟨rfl, X, rfl⟩
  go_wp2
  go_ret
  exact ⟨rfl, by repeat (first | exact Grown.refl _ | apply Grown.drew | apply Grown.alloc)⟩
end Go.Proofs.Ybulkaopw
