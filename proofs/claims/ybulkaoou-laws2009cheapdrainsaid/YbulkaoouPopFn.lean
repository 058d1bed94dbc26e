import Derived.Test.YbulkaoouState
import Derived.RegionTactic
import Derived.LaidEqlPtr
namespace Go.Proofs.Ybulkaoou
open Go.ChangeShapes Go.WideShapes Go.ChangeAt Go.RowKit
set_option linter.unusedVariables false

/-- 'r.(*order)' of an order; two pointers that are one. -/
theorem as_order (v : Value) (w : World) : (Instr.typeAssert (.iface 26 v) 20 26 true).run Yba.prog w = .ok (.tuple #[v, .bool true]) w := by kernel_rfl
theorem neq_same (a : Addr) (w : World) : (binOp .neq 26 (.pointer (some a)) (.pointer (some a))).run Yba.prog w = .ok (.bool false) w := by
  obtain ⟨j, hj, _⟩ : ∃ j, Yba.prog.info? 39 = some j ∧ True := by
    cases h : Yba.prog.info? 39 with
    | none => exact absurd ((show (Yba.prog.info? 39).isSome = true by kernel_rfl)) (by rw [h]; simp)
    | some j => exact ⟨j, rfl, trivial⟩
  have h : ∀ d : Nat, (Op.equalIn (d + 1) 26 (.pointer (some a)) (.pointer (some a))).run Yba.prog w = .ok true w := fun d => by
    simp [Op.equalIn, run_underlying Yba.underlying26, sizeOf, typeInfo, hj, run_sameAddr_same]
  simp only [binOp]
  simp [Op.equal, Op.maxDepth, h 9999]

set_option maxHeartbeats 1000000 in
theorem popfn (D En ob m c kd : Nat) (v3 v4 : Value) (w : World) (hk : kd ≤ 1) (hm : m ≤ 1024) (hmc : m + 1 ≤ c) (hc : c ≤ 9223372036854775807) (hDE : D ≠ En) (hDo : D ≠ ob) (hEo : En ≠ ob)
    (h0 : w.cell? ⟨D, 0, none⟩ = some (.int .u8 kd)) (h1 : w.cell? ⟨D, 1, none⟩ = some (.slice (some ⟨En, 0, none⟩) (m + 1) c)) (hf1 : w.frozen? ⟨D, 1, none⟩ = false)
    (h2 : w.cell? ⟨En, m * 2, none⟩ = some (.pointer (some ⟨ob, 0, none⟩))) (h3 : w.cell? ⟨En, m * 2 + 1, none⟩ = some v3) (hf2 : w.frozen? ⟨En, m * 2, none⟩ = false) (hf3 : w.frozen? ⟨En, m * 2 + 1, none⟩ = false)
    (h4 : w.cell? ⟨ob, 18 + kd, none⟩ = some v4) (hf4 : w.frozen? ⟨ob, 18 + kd, none⟩ = false) :
    Calls Yba.prog 5 #[.pointer (some ⟨D, 0, none⟩)] w fun e w' => e = .returned (.iface 26 (.pointer (some ⟨ob, 0, none⟩))) ∧
      ∃ q, w' = ((((w.setCell ⟨En, m * 2, none⟩ (.pointer none)).setCell ⟨En, m * 2 + 1, none⟩ (.int .u64 0)).setCell ⟨D, 1, none⟩ (.slice (some ⟨En, 0, none⟩) m c)).setCell ⟨ob, 18 + kd, none⟩ (.int .i32 (-1))).drewN q := by
  go_enter Yba.func5, Yba.ntmps5
  go_wp2
  go_region
  all_goals
    go_wp2
    go_ret
    exact ⟨rfl, 1, rfl⟩

/-- The memory behind Pop: D: the heap's own block. -/
structure Done (w w2 : World) (B n : Nat) (zs : List Int) (kd D : Nat) : Prop where
  below : Below B w w2
  ent : w2.cell? ⟨D, 1, none⟩ = some (.slice (some ⟨B + 1, 0, none⟩) (n - 1) n)
  ord : ∀ j, j < n → w2.cell? ⟨B, j, none⟩ = some (.pointer (some ⟨B + 2 + j, 0, none⟩))
  lastO : w2.cell? ⟨B + 1, (n - 1) * 2, none⟩ = some (.pointer none)
  lastL : w2.cell? ⟨B + 1, (n - 1) * 2 + 1, none⟩ = some (.int .u64 0)
  entO : ∀ j, j < n - 1 → w2.cell? ⟨B + 1, j * 2, none⟩ = some (.pointer (some ⟨B + 2 + j, 0, none⟩))
  entL : ∀ j, j < n - 1 → w2.cell? ⟨B + 1, j * 2 + 1, none⟩ = some (.int .u64 (zs.getD j 0))
  lastK : w2.cell? ⟨B + 2 + (n - 1), 18 + kd, none⟩ = some (.int .i32 (-1))
  expK : ∀ j, j < n - 1 → w2.cell? ⟨B + 2 + j, 18 + kd, none⟩ = some (.int .i32 j)
  expO : ∀ j, j < n → w2.cell? ⟨B + 2 + j, 18 + (1 - kd), none⟩ = some (.int .i32 7)

theorem St.pop {w wr : World} {B n kd : Nat} {zs : List Int} (hk : kd ≤ 1) (hn0 : 0 < n) (hn : n ≤ 1024) (h : St w wr B n n zs kd) :
    Calls Yba.prog 5 #[.pointer (some ⟨wr.heap.size, 0, none⟩)] (wr.alloc (.cells #[.int .u8 kd, .slice (some ⟨B + 1, 0, none⟩) n n] 44)) fun e w' =>
      e = .returned (.iface 26 (.pointer (some ⟨B + 2 + (n - 1), 0, none⟩))) ∧ Done w w' B n zs kd wr.heap.size := by
  have hs := h.size
  obtain ⟨m, rfl⟩ : ∃ m, n = m + 1 := ⟨n - 1, by omega⟩
  obtain ⟨D, hD⟩ : ∃ D, D = wr.heap.size := ⟨_, rfl⟩
  obtain ⟨W, hW⟩ : ∃ W, W = wr.alloc (.cells #[.int .u8 kd, .slice (some ⟨B + 1, 0, none⟩) (m + 1) (m + 1)] 44) := ⟨_, rfl⟩
  have past : ∀ x i, x < D → W.cell? ⟨x, i, none⟩ = wr.cell? ⟨x, i, none⟩ := fun x i hx => by rw [hW]; exact World.cell?_alloc_past _ _ _ (by omega)
  have pastF : ∀ x i, x < D → W.frozen? ⟨x, i, none⟩ = wr.frozen? ⟨x, i, none⟩ := fun x i hx => by rw [hW]; exact World.frozen?_alloc_past _ _ _ (by omega)
  have d0 : W.cell? ⟨D, 0, none⟩ = some (.int .u8 kd) := by rw [hW, World.cell?_alloc_at _ _ _ _ hD]; rfl
  have d1 : W.cell? ⟨D, 1, none⟩ = some (.slice (some ⟨B + 1, 0, none⟩) (m + 1) (m + 1)) := by rw [hW, World.cell?_alloc_at _ _ _ _ hD]; rfl
  have df : W.frozen? ⟨D, 1, none⟩ = false := by rw [hW]; exact World.frozen?_alloc_at _ _ _ _ hD
  have hbel : Below B w W := by rw [hW]; exact h.below.alloc (by omega) _
  rw [← hW, ← hD]
  rw [← hD] at hs
  have e2 : W.cell? ⟨B + 1, m * 2, none⟩ = some (.pointer (some ⟨B + 2 + m, 0, none⟩)) := by rw [past _ _ (by omega), h.entO m (by omega), if_pos (by omega)]
  have e3 : W.cell? ⟨B + 1, m * 2 + 1, none⟩ = some (.int .u64 (zs.getD m 0)) := by rw [past _ _ (by omega), h.entL m (by omega), if_pos (by omega)]
  have e4 : W.cell? ⟨B + 2 + m, 18 + kd, none⟩ = some (.int .i32 m) := by rw [past _ _ (by omega)]; exact h.expK m (by omega)
  refine (popfn D (B + 1) (B + 2 + m) m (m + 1) kd _ _ W hk (by omega) (Nat.le_refl _) (by omega) (by omega) (by omega) (by omega) d0 d1 df e2 e3
    (by rw [pastF _ _ (by omega)]; exact h.entF _) (by rw [pastF _ _ (by omega)]; exact h.entF _) e4 (by rw [pastF _ _ (by omega)]; exact h.expF _ _ (by omega))).mono ?_
  rintro e w2 ⟨rfl, q, rfl⟩
  refine ⟨rfl, ?_⟩
  have g1 := fun p => cellSet (w := W) (a := ⟨B + 1, m * 2, none⟩) (.pointer none) e2 p
  have g2 := fun p => cellSet (w := W.setCell ⟨B + 1, m * 2, none⟩ (.pointer none)) (a := ⟨B + 1, m * 2 + 1, none⟩) (u := .int .u64 (zs.getD m 0)) (.int .u64 0) (by rw [g1, if_neg (by simp)]; exact e3) p
  have g3 := fun p => cellSet (w := (W.setCell ⟨B + 1, m * 2, none⟩ (.pointer none)).setCell ⟨B + 1, m * 2 + 1, none⟩ (.int .u64 0)) (a := ⟨D, 1, none⟩) (u := .slice (some ⟨B + 1, 0, none⟩) (m + 1) (m + 1)) (.slice (some ⟨B + 1, 0, none⟩) m (m + 1)) (by rw [g2, g1, if_neg (by simp <;> omega), if_neg (by simp <;> omega)]; exact d1) p
  have g4 := fun p => cellSet (w := ((W.setCell ⟨B + 1, m * 2, none⟩ (.pointer none)).setCell ⟨B + 1, m * 2 + 1, none⟩ (.int .u64 0)).setCell ⟨D, 1, none⟩ (.slice (some ⟨B + 1, 0, none⟩) m (m + 1))) (a := ⟨B + 2 + m, 18 + kd, none⟩) (u := .int .i32 m) (.int .i32 (-1)) (by rw [g3, g2, g1, if_neg (by simp <;> omega), if_neg (by simp <;> omega), if_neg (by simp <;> omega)]; exact e4) p
  obtain ⟨w4, hw4⟩ : ∃ w4, w4 = (((W.setCell ⟨B + 1, m * 2, none⟩ (.pointer none)).setCell ⟨B + 1, m * 2 + 1, none⟩ (.int .u64 0)).setCell ⟨D, 1, none⟩ (.slice (some ⟨B + 1, 0, none⟩) m (m + 1))).setCell ⟨B + 2 + m, 18 + kd, none⟩ (.int .i32 (-1)) := ⟨_, rfl⟩
  have hb4 : Below B w w4 := by
    rw [hw4]
    exact (((hbel.setCell (p := ⟨B + 1, m * 2, none⟩) (by simp) _).setCell (p := ⟨B + 1, m * 2 + 1, none⟩) (by simp) _).setCell (p := ⟨D, 1, none⟩) (by simp; omega) _).setCell (p := ⟨B + 2 + m, 18 + kd, none⟩) (by simp; omega) _
  have hcl : ∀ p, w4.cell? p = if p = ⟨B + 2 + m, 18 + kd, none⟩ then some (.int .i32 (-1)) else if p = ⟨D, 1, none⟩ then some (.slice (some ⟨B + 1, 0, none⟩) m (m + 1)) else if p = ⟨B + 1, m * 2 + 1, none⟩ then some (.int .u64 0) else if p = ⟨B + 1, m * 2, none⟩ then some (.pointer none) else W.cell? p := fun p => by
    rw [hw4, g4, g3, g2, g1]
  rw [← hw4]
  clear hw4 g1 g2 g3 g4
  have hb5 : Below B w (w4.drewN q) := ⟨hb4.os, hb4.tape, hb4.output, hb4.size, hb4.block⟩
  have e1 : m + 1 - 1 = m := rfl
  refine ⟨hb5, ?_, fun j hj => ?_, ?_, ?_, fun j hj => ?_, fun j hj => ?_, ?_, fun j hj => ?_, fun j hj => ?_⟩ <;> rw [World.cell?_drewN, hcl] <;> try rw [e1]
  · rw [if_neg (by simp <;> omega), if_pos rfl]
  · rw [if_neg (by simp <;> omega), if_neg (by simp <;> omega), if_neg (by simp <;> omega), if_neg (by simp <;> omega), past _ _ (by omega), h.ord j hj, if_pos hj]
  · rw [if_neg (by simp <;> omega), if_neg (by simp <;> omega), if_neg (by simp <;> omega), if_pos rfl]
  · rw [if_neg (by simp <;> omega), if_neg (by simp <;> omega), if_pos rfl]
  · rw [if_neg (by simp <;> omega), if_neg (by simp <;> omega), if_neg (by simp <;> omega), if_neg (by simp <;> omega), past _ _ (by omega), h.entO j (by omega), if_pos (by omega)]
  · rw [if_neg (by simp <;> omega), if_neg (by simp <;> omega), if_neg (by simp <;> omega), if_neg (by simp <;> omega), past _ _ (by omega), h.entL j (by omega), if_pos (by omega)]
  · rw [if_pos rfl]
  · rw [if_neg (by simp <;> omega), if_neg (by simp <;> omega), if_neg (by simp <;> omega), if_neg (by simp <;> omega), past _ _ (by omega)]; exact h.expK j (by omega)
  · rw [if_neg (by simp <;> omega), if_neg (by simp <;> omega), if_neg (by simp <;> omega), if_neg (by simp <;> omega), past _ _ (by omega)]; exact h.expO j (by omega)
end Go.Proofs.Ybulkaoou
