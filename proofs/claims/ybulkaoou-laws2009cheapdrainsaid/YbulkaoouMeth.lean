import Derived.Test.YbulkaoouState
import Derived.RegionTactic
import Derived.BigRegion
namespace Go.Proofs.Ybulkaoou
open Go.ChangeShapes Go.WideShapes Go.ChangeAt Go.RowKit
set_option linter.unusedVariables false

theorem drew3 (X : World) : X.drew.drew.drew = X.drewN 3 := rfl

theorem lenfn (D m c : Nat) (a : Option Addr) (w : World) (h1 : w.cell? ⟨D, 1, none⟩ = some (.slice a m c)) :
    Calls Yba.prog 7 #[.pointer (some ⟨D, 0, none⟩)] w fun e w' => e = .returned (.int .i64 m) ∧ w' = w := by
  go_enter Yba.func7, Yba.ntmps7
  go_wp2
  go_ret
  exact ⟨rfl, rfl⟩

theorem lessfn (D g m c i j : Nat) (x y : Int) (w : World) (hi : (i : Int) < (m : Int)) (hj : (j : Int) < (m : Int)) (hm : m ≤ 1024)
    (h1 : w.cell? ⟨D, 1, none⟩ = some (.slice (some ⟨g, 0, none⟩) m c))
    (h2 : w.cell? ⟨g, i * 2 + 1, none⟩ = some (.int .u64 x)) (h3 : w.cell? ⟨g, j * 2 + 1, none⟩ = some (.int .u64 y)) :
    Calls Yba.prog 34 #[.pointer (some ⟨D, 0, none⟩), .int .i64 i, .int .i64 j] w fun e w' => e = .returned (.bool (decide (x < y))) ∧ ∃ q, w' = w.drewN q := by
  go_enter Yba.func34, Yba.ntmps34
  go_wp2
  go_quiet (fail)
  go_wp2
  go_ret
  exact ⟨rfl, _, rfl⟩

set_option maxHeartbeats 1000000 in
theorem swap_ne (D g m c i j oi oj kd : Nat) (x y : Int) (ui uj : Value) (w : World) (hk : kd ≤ 1) (hi : (i : Int) < (m : Int)) (hj : (j : Int) < (m : Int)) (hm : m ≤ 1024) (hij : i ≠ j)
    (hDg : D ≠ g) (hDi : D ≠ oi) (hDj : D ≠ oj) (hgi : g ≠ oi) (hgj : g ≠ oj) (hoo : oi ≠ oj)
    (h0 : w.cell? ⟨D, 0, none⟩ = some (.int .u8 kd)) (h1 : w.cell? ⟨D, 1, none⟩ = some (.slice (some ⟨g, 0, none⟩) m c))
    (h2 : w.cell? ⟨g, i * 2, none⟩ = some (.pointer (some ⟨oi, 0, none⟩))) (h3 : w.cell? ⟨g, i * 2 + 1, none⟩ = some (.int .u64 x))
    (h4 : w.cell? ⟨g, j * 2, none⟩ = some (.pointer (some ⟨oj, 0, none⟩))) (h5 : w.cell? ⟨g, j * 2 + 1, none⟩ = some (.int .u64 y))
    (f2 : w.frozen? ⟨g, i * 2, none⟩ = false) (f3 : w.frozen? ⟨g, i * 2 + 1, none⟩ = false) (f4 : w.frozen? ⟨g, j * 2, none⟩ = false) (f5 : w.frozen? ⟨g, j * 2 + 1, none⟩ = false)
    (h6 : w.cell? ⟨oi, 18 + kd, none⟩ = some ui) (h7 : w.cell? ⟨oj, 18 + kd, none⟩ = some uj) (f6 : w.frozen? ⟨oi, 18 + kd, none⟩ = false) (f7 : w.frozen? ⟨oj, 18 + kd, none⟩ = false) :
    Calls Yba.prog 35 #[.pointer (some ⟨D, 0, none⟩), .int .i64 i, .int .i64 j] w fun e w' => e = .returned (.tuple #[]) ∧
      ∃ q, w' = ((((((w.setCell ⟨g, i * 2, none⟩ (.pointer (some ⟨oj, 0, none⟩))).setCell ⟨g, i * 2 + 1, none⟩ (.int .u64 y)).setCell ⟨g, j * 2, none⟩ (.pointer (some ⟨oi, 0, none⟩))).setCell ⟨g, j * 2 + 1, none⟩ (.int .u64 x)).setCell ⟨oj, 18 + kd, none⟩ (.int .i32 i)).setCell ⟨oi, 18 + kd, none⟩ (.int .i32 j)).drewN q := by
  go_enter Yba.func35, Yba.ntmps35
  go_wp2
  go_region
  go_wp2
  go_region
  go_wp2
  go_region
  go_end0
  exact ⟨rfl, 3, drew3 _⟩

set_option maxHeartbeats 1000000 in
theorem swap_eq (D g m c i oi kd : Nat) (x : Int) (ui : Value) (w : World) (hk : kd ≤ 1) (hi : (i : Int) < (m : Int)) (hm : m ≤ 1024)
    (hDg : D ≠ g) (hDi : D ≠ oi) (hgi : g ≠ oi)
    (h0 : w.cell? ⟨D, 0, none⟩ = some (.int .u8 kd)) (h1 : w.cell? ⟨D, 1, none⟩ = some (.slice (some ⟨g, 0, none⟩) m c))
    (h2 : w.cell? ⟨g, i * 2, none⟩ = some (.pointer (some ⟨oi, 0, none⟩))) (h3 : w.cell? ⟨g, i * 2 + 1, none⟩ = some (.int .u64 x))
    (f2 : w.frozen? ⟨g, i * 2, none⟩ = false) (f3 : w.frozen? ⟨g, i * 2 + 1, none⟩ = false)
    (h6 : w.cell? ⟨oi, 18 + kd, none⟩ = some ui) (f6 : w.frozen? ⟨oi, 18 + kd, none⟩ = false) :
    Calls Yba.prog 35 #[.pointer (some ⟨D, 0, none⟩), .int .i64 i, .int .i64 i] w fun e w' => e = .returned (.tuple #[]) ∧
      ∃ q, w' = ((((((w.setCell ⟨g, i * 2, none⟩ (.pointer (some ⟨oi, 0, none⟩))).setCell ⟨g, i * 2 + 1, none⟩ (.int .u64 x)).setCell ⟨g, i * 2, none⟩ (.pointer (some ⟨oi, 0, none⟩))).setCell ⟨g, i * 2 + 1, none⟩ (.int .u64 x)).setCell ⟨oi, 18 + kd, none⟩ (.int .i32 i)).setCell ⟨oi, 18 + kd, none⟩ (.int .i32 i)).drewN q := by
  go_enter Yba.func35, Yba.ntmps35
  go_wp2
  go_region
  go_wp2
  go_region
  go_wp2
  go_region
  go_end0
  exact ⟨rfl, 3, drew3 _⟩
end Go.Proofs.Ybulkaoou
