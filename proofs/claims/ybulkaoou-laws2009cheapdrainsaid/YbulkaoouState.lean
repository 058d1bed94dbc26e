import Derived.Test.YbulkaoouRows
import Derived.WalkKit
import Derived.ProofKit
import Derived.OpenShut
import Derived.Below
import Derived.OwnWalk
import Derived.WalkSpells
import Derived.WalkLawsBesides
import Derived.Deep.QuietTactic
import Derived.BigQuiet
import Derived.Deep.OwnRows
namespace Go.Proofs.Ybulkaoou
open Go.ChangeShapes Go.WideShapes Go.ChangeAt Go.RowKit
set_option linter.unusedVariables false

theorem Yba.info26 : (Yba.prog.info? 26).map (fun i => (i.zero, i.size, i.bytes)) = some (some (.pointer none), 1, 8) := by kernel_rfl
theorem Yba.info41 : (Yba.prog.info? 41).map (fun i => (i.zero, i.size, i.bytes)) = some (some (.agg #[.pointer none, .int .u64 0]), 2, 16) := by kernel_rfl

/-- n nil pointers; n empty entries. -/
def mkO (n : Nat) : Array Value := madeCells #[.pointer none] n
def mkE (n : Nat) : Array Value := madeCells #[.pointer none, .int .u64 0] (n * 2)

theorem make_orders (n : Nat) (hn : n ≤ 1024) (w : World) : (Instr.makeSlice 24 (.int .i64 (n : Int)) (.int .i64 (n : Int))).run Yba.prog w = .ok (.slice (some ⟨w.heap.size, 0, none⟩) n n) (w.alloc (.cells (mkO n) 26)) := by
  obtain ⟨i0, hi, hz0, hz1, hz2⟩ := info_parts Yba.info26
  have := run_make (P := Yba.prog) w 24 26 i0 _ Yba.underlying24 hi hz0 .i64 .i64 n n (by omega) (by omega) (by rw [hz2]; omega) (by omega)
  rw [hz1] at this
  simpa [mkO, Value.cells] using this

theorem make_entries (n : Nat) (hn : n ≤ 1024) (w : World) : (Instr.makeSlice 25 (.int .i64 (n : Int)) (.int .i64 (n : Int))).run Yba.prog w = .ok (.slice (some ⟨w.heap.size, 0, none⟩) n n) (w.alloc (.cells (mkE n) 41)) := by
  obtain ⟨i0, hi, hz0, hz1, hz2⟩ := info_parts Yba.info41
  have := run_make (P := Yba.prog) w 25 41 i0 _ Yba.underlying25 hi hz0 .i64 .i64 n n (by omega) (by omega) (by rw [hz2]; omega) (by omega)
  rw [hz1] at this
  simpa [mkE, Value.cells] using this

/-- The built memory, k rounds done: B: the row of orders, B + 1: the row of entries, B + 2 + j: order j. -/
structure St (w wr : World) (B k n : Nat) (zs : List Int) (kd : Nat) : Prop where
  below : Below B w wr
  size : wr.heap.size = B + 2 + k
  ord : ∀ j, j < n → wr.cell? ⟨B, j, none⟩ = some (.pointer (if j < k then some ⟨B + 2 + j, 0, none⟩ else none))
  ordF : ∀ j, wr.frozen? ⟨B, j, none⟩ = false
  entO : ∀ j, j < n → wr.cell? ⟨B + 1, j * 2, none⟩ = some (.pointer (if j < k then some ⟨B + 2 + j, 0, none⟩ else none))
  entL : ∀ j, j < n → wr.cell? ⟨B + 1, j * 2 + 1, none⟩ = some (.int .u64 (if j < k then zs.getD j 0 else 0))
  entF : ∀ j, wr.frozen? ⟨B + 1, j, none⟩ = false
  expK : ∀ j, j < k → wr.cell? ⟨B + 2 + j, 18 + kd, none⟩ = some (.int .i32 j)
  expO : ∀ j, j < k → wr.cell? ⟨B + 2 + j, 18 + (1 - kd), none⟩ = some (.int .i32 7)
  expF : ∀ j i, j < k → wr.frozen? ⟨B + 2 + j, i, none⟩ = false

theorem cellSet {w : World} {a : Addr} {u : Value} (v : Value) (h : w.cell? a = some u) (p : Addr) : (w.setCell a v).cell? p = if p = a then some v else w.cell? p := by
  by_cases e : p = a
  · subst e; rw [if_pos rfl]; exact World.cell?_setCell_same w p v h
  · rw [if_neg e]; exact World.cell?_setCell_other w a p v (fun h => e h.symm)

theorem St.start {w : World} {n kd : Nat} {zs : List Int} : St w ((w.alloc (.cells (mkO n) 26)).alloc (.cells (mkE n) 41)) w.heap.size 0 n zs kd := by
  have s1 : (w.alloc (.cells (mkO n) 26)).heap.size = w.heap.size + 1 := by simp
  refine ⟨((Below.refl _ _).alloc (Nat.le_refl _) _).alloc (by simp) _, by simp, fun j hj => ?_, fun j => ?_, fun j hj => ?_, fun j hj => ?_, fun j => ?_, fun j hj => by omega, fun j hj => by omega, fun j i hj => by omega⟩
  · rw [World.cell?_alloc_past _ _ _ (by simp), World.cell?_alloc_at _ _ _ _ rfl]
    simp [mkO, madeCells, hj, Nat.mod_one]
  · rw [World.frozen?_alloc_past _ _ _ (by simp), World.frozen?_alloc_at _ _ _ _ rfl]
  · rw [World.cell?_alloc_at _ _ _ _ s1.symm]
    have : j * 2 < n * 2 := by omega
    simp [mkE, madeCells, this]
  · rw [World.cell?_alloc_at _ _ _ _ s1.symm]
    have h1 : j * 2 + 1 < n * 2 := by omega
    have h2 : (j * 2 + 1) % 2 = 1 := by omega
    simp [mkE, madeCells, h1, h2]
  · exact World.frozen?_alloc_at _ _ _ _ s1.symm

theorem St.step {w wr : World} {B k n kd : Nat} {zs : List Int} (h : St w wr B k n zs kd) (hlt : k < n) (X : Array Value) (hX0 : X[18 + kd]? = some (.int .i32 k)) (hX1 : X[18 + (1 - kd)]? = some (.int .i32 7)) :
    St w ((((wr.setCell ⟨B, k, none⟩ (.pointer (some ⟨wr.heap.size, 0, none⟩))).setCell ⟨B + 1, k * 2, none⟩ (.pointer (some ⟨wr.heap.size, 0, none⟩))).setCell ⟨B + 1, k * 2 + 1, none⟩ (.int .u64 (zs[k]?.getD 0))).alloc (.cells X 39)) B (k + 1) n zs kd := by
  have f1 := h.ord k hlt
  have f3 := h.entO k hlt
  have f4 := h.entL k hlt
  have hs := h.size
  obtain ⟨w3, hw3⟩ : ∃ w3, w3 = ((wr.setCell ⟨B, k, none⟩ (.pointer (some ⟨wr.heap.size, 0, none⟩))).setCell ⟨B + 1, k * 2, none⟩ (.pointer (some ⟨wr.heap.size, 0, none⟩))).setCell ⟨B + 1, k * 2 + 1, none⟩ (.int .u64 (zs[k]?.getD 0)) := ⟨_, rfl⟩
  have hsz : w3.heap.size = B + 2 + k := by rw [hw3]; simp [hs]
  have hfr : ∀ p, w3.frozen? p = wr.frozen? p := fun p => by rw [hw3]; simp [World.frozen?_setCell]
  have hcl : ∀ p, w3.cell? p = if p = ⟨B + 1, k * 2 + 1, none⟩ then some (.int .u64 (zs[k]?.getD 0)) else if p = ⟨B + 1, k * 2, none⟩ then some (.pointer (some ⟨B + 2 + k, 0, none⟩)) else if p = ⟨B, k, none⟩ then some (.pointer (some ⟨B + 2 + k, 0, none⟩)) else wr.cell? p := fun p => by
    have g1 := fun p => cellSet (.pointer (some ⟨wr.heap.size, 0, none⟩)) f1 p
    have g2 := fun p => cellSet (w := wr.setCell ⟨B, k, none⟩ (.pointer (some ⟨wr.heap.size, 0, none⟩))) (a := ⟨B + 1, k * 2, none⟩) (u := .pointer none) (.pointer (some ⟨wr.heap.size, 0, none⟩)) (by rw [g1]; simp [f3]) p
    have g3 := fun p => cellSet (w := (wr.setCell ⟨B, k, none⟩ (.pointer (some ⟨wr.heap.size, 0, none⟩))).setCell ⟨B + 1, k * 2, none⟩ (.pointer (some ⟨wr.heap.size, 0, none⟩))) (a := ⟨B + 1, k * 2 + 1, none⟩) (u := .int .u64 0) (.int .u64 (zs[k]?.getD 0)) (by rw [g2, g1]; simp [f4]) p
    rw [hw3, g3, g2, g1, hs]
  have hbel : Below B w w3 := by
    rw [hw3]
    exact ((h.below.setCell (p := ⟨B, k, none⟩) (Nat.le_refl _) _).setCell (p := ⟨B + 1, k * 2, none⟩) (by simp) _).setCell (p := ⟨B + 1, k * 2 + 1, none⟩) (by simp) _
  rw [← hw3]
  clear hw3
  have past : ∀ x i, x < B + 2 + k → (w3.alloc (.cells X 39)).cell? ⟨x, i, none⟩ = w3.cell? ⟨x, i, none⟩ := fun x i hx => World.cell?_alloc_past _ _ _ (by rw [hsz]; exact hx)
  have pastF : ∀ x i, x < B + 2 + k → (w3.alloc (.cells X 39)).frozen? ⟨x, i, none⟩ = w3.frozen? ⟨x, i, none⟩ := fun x i hx => World.frozen?_alloc_past _ _ _ (by rw [hsz]; exact hx)
  refine ⟨hbel.alloc (by rw [hsz]; omega) _, by simp [hsz] <;> omega, fun j hj => ?_, fun j => ?_, fun j hj => ?_, fun j hj => ?_, fun j => ?_, fun j hj => ?_, fun j hj => ?_, fun j i hj => ?_⟩
  · rw [past _ _ (by omega), hcl, if_neg (by simp), if_neg (by simp)]
    by_cases e : j = k
    · subst e; simp
    · rw [if_neg (by simp <;> omega), h.ord j hj]
      by_cases hjk : j < k
      · rw [if_pos hjk, if_pos (by omega)]
      · rw [if_neg hjk, if_neg (by omega)]
  · rw [pastF _ _ (by omega), hfr]; exact h.ordF j
  · rw [past _ _ (by omega), hcl, if_neg (by simp <;> omega)]
    by_cases e : j = k
    · subst e; simp
    · rw [if_neg (by simp <;> omega), if_neg (by simp), h.entO j hj]
      by_cases hjk : j < k
      · rw [if_pos hjk, if_pos (by omega)]
      · rw [if_neg hjk, if_neg (by omega)]
  · rw [past _ _ (by omega), hcl]
    by_cases e : j = k
    · subst e; simp
    · rw [if_neg (by simp <;> omega), if_neg (by simp <;> omega), if_neg (by simp), h.entL j hj]
      by_cases hjk : j < k
      · rw [if_pos hjk, if_pos (by omega)]
      · rw [if_neg hjk, if_neg (by omega)]
  · rw [pastF _ _ (by omega), hfr]; exact h.entF j
  · by_cases e : j = k
    · subst e; rw [World.cell?_alloc_at _ _ _ _ hsz.symm]; exact hX0
    · rw [past _ _ (by omega), hcl, if_neg (by simp <;> omega), if_neg (by simp <;> omega), if_neg (by simp <;> omega)]
      exact h.expK j (by omega)
  · by_cases e : j = k
    · subst e; rw [World.cell?_alloc_at _ _ _ _ hsz.symm]; exact hX1
    · rw [past _ _ (by omega), hcl, if_neg (by simp <;> omega), if_neg (by simp <;> omega), if_neg (by simp <;> omega)]
      exact h.expO j (by omega)
  · by_cases e : j = k
    · subst e; exact World.frozen?_alloc_at _ _ _ _ hsz.symm
    · rw [pastF _ _ (by omega), hfr]; exact h.expF j i (by omega)
end Go.Proofs.Ybulkaoou
