import Derived.Test.YbulkaolaEnter
import Derived.OwnWalk
import Derived.WalkSpells
import Derived.WalkLawsBesides
namespace Go.Proofs.Ybulkaola
open Go.ChangeShapes Go.WideShapes Go.ChangeAt Go.RowKit
set_option linter.unusedVariables false

theorem Yba.info5 : (Yba.prog.info? 5).map (fun i => (i.zero, i.size, i.bytes)) = some (some (.int .u8 0), 1, 1) := by kernel_rfl

/-- Some bytes, in the call's own row. -/
def Own (w : World) (B n : Nat) : Prop :=
  ∃ ys : List Int, ys.length = n ∧ w.ownsRow B 5 1 (.slice (some ⟨B, 0, none⟩) n n) n (ys.map (Value.int .u8))

theorem Own.made {w : World} {B n : Nat} (h : w.ownsRow B 5 1 (.slice (some ⟨B, 0, none⟩) n n) n (madeCells (Value.int .u8 0).cells (n * 1)).toList) : Own w B n := by
  refine ⟨List.replicate n 0, by simp, ?_⟩
  have e : (madeCells (Value.int .u8 0).cells (n * 1)).toList = (List.replicate n (0 : Int)).map (Value.int .u8) := by
    rw [Nat.mul_one]; show (madeCells #[Value.int .u8 0] n).toList = _; rw [toList_madeCells_one]; simp
  rw [← e]; exact h

theorem Own.set {w : World} {B n : Nat} (h : Own w B n) (k : Nat) (y : Int) : Own (w.setCell ⟨B, k, none⟩ (.int .u8 y)) B n := by
  obtain ⟨ys, hl, ho⟩ := h
  refine ⟨ys.set k y, by simpa using hl, ?_⟩
  rw [List.map_set]; exact (ho.stored k _).1

theorem Own.cell {w : World} {B n : Nat} (h : Own w B n) {k : Nat} (hk : k < n) : ∃ y, w.cell? ⟨B, k, none⟩ = some (.int .u8 y) := by
  obtain ⟨ys, hl, ho⟩ := h
  exact ⟨ys[k]'(by omega), by rw [ho.cellAt k (by omega)]; simp [hl, hk]⟩

theorem Own.free {w : World} {B n : Nat} (h : Own w B n) (k : Nat) : w.frozen? ⟨B, k, none⟩ = false := by
  obtain ⟨ys, hl, ho⟩ := h
  exact ho.frozenAt k

theorem Own.lt {w : World} {B n : Nat} (h : Own w B n) : B < w.heap.size := by
  obtain ⟨ys, hl, h1, h2 | ⟨g, cap, cur, hv, hg, hh, _⟩⟩ := h
  · simp at h2
  · simp at hv; obtain ⟨rfl, rfl⟩ := hv
    exact lt_of_block hh

theorem Own.row {w : World} {B n : Nat} (h : Own w B n) : ∃ ys, Row w w.heap.size (some ⟨B, 0, none⟩) n ys := by
  have hlt := h.lt
  obtain ⟨ys, hl, ho⟩ := h
  exact ⟨ys, .inr ⟨B, 0, rfl, hlt, fun j hj => by rw [Nat.zero_add, ho.cellAt j (by omega)]; simp [hl, hj]⟩⟩

theorem shaped_big (a0 : Option Addr) (n c : Nat) (a1 a2 : Int) (w : World) (hn : 1024 < n) (hm : n ≤ maxLen) :
    Calls Yba.prog 4 #[.slice a0 n c, .int .u64 a1, .int .u8 a2] w fun e w' => e = .returned (.bool true) ∧ Below w.heap.size w w' := by
  unfold maxLen at hm
  go_enter Yba.func4, Yba.ntmps4
  go_wp2
  go_ret
  exact ⟨rfl, Below.refl _ _⟩

theorem mod_nat (a : Int) (n : Nat) : ∃ m : Nat, a % ((n : Int) + 3) = (m : Int) ∧ m ≤ n + 2 := by
  have h0 := Int.emod_nonneg a (b := (n : Int) + 3) (by omega)
  have h1 := Int.emod_lt_of_pos a (b := (n : Int) + 3) (by omega)
  exact ⟨(a % ((n : Int) + 3)).toNat, by omega, by omega⟩

set_option maxHeartbeats 1000000 in
theorem shaped_some (b off n c : Nat) (zs : List Int) (a1 a2 : Int) (w : World) (hn : n ≤ 1024) (hb : b < w.heap.size)
    (h1 : 0 ≤ a1) (h1' : a1 ≤ 18446744073709551615) (h2 : 0 ≤ a2) (h2' : a2 ≤ 255)
    (hc : ∀ j, j < n → w.cell? ⟨b, off + j, none⟩ = some (.int .u8 (zs.getD j 0)))
    (hz : ∀ j : Nat, 0 ≤ zs[j]?.getD 0 ∧ zs[j]?.getD 0 ≤ 255) :
    Calls Yba.prog 4 #[.slice (some ⟨b, off, none⟩) n c, .int .u64 a1, .int .u8 a2] w fun e w' => e = .returned (.bool true) ∧ Below w.heap.size w w' := by
  obtain ⟨i0, hi, hz0, hz1, hz2⟩ := info_parts Yba.info5
  obtain ⟨m, hmm, hmn⟩ := mod_nat a1 n
  go_enter Yba.func4, Yba.ntmps4
  go_wp2_with (first | (at_make; refine wpList_make_full _ rfl _ _ 22 rfl w.heap.size 5 i0 (.int .u8 0) 1 Yba.underlying22 hi hz0 hz1 _ _ _ _ n rfl rfl rfl rfl ?_ ?_ (Nat.le_refl _) ?_))
  · rw [hz2]; omega
  · unfold maxLen; omega
  intro w1 hown hgrow
  have hO : Own w1 w.heap.size n := Own.made (by rw [Nat.mul_one]; exact hown)
  have hB : Below w.heap.size w w1 := (Below.refl _ _).grown hgrow (Nat.le_refl _) (by simp)
  clear hown hgrow hi hz0 hz1 hz2
  go_wp2
  go_loopw [9] (fun t wr => ∃ k : Nat, t = .int .i64 k ∧ k ≤ n ∧ Own wr w.heap.size n ∧ Below w.heap.size w wr) (fun t _ => n - (intOf t).toNat)
  case atStart => exact ⟨0, rfl, Nat.zero_le _, hO, hB⟩
  case round =>
    clear hO hB
    obtain ⟨k, rfl, hk, hO, hB⟩ := hrel
    by_cases hlt : k < n
    · have hcell : wr.cell? ⟨b, off + k, none⟩ = some (.int .u8 (zs.getD k 0)) := (hB.cell (p := ⟨b, off + k, none⟩) hb).trans (hc k hlt)
      obtain ⟨y, hy⟩ := hO.cell hlt
      have hfr := hO.free k
      have hzk := hz k
      clear hc hz
      go_wp2
      go_roundw
      case rel => exact ⟨k + 1, by go_num, by omega, hO.set k _, hB.setCell (Nat.le_refl _) _⟩
      case measure => simp [intOf]; omega
    · obtain ⟨ys, hR⟩ := hO.row
      have hlt0 := hO.lt
      clear hc hz hb
      go_wp2_with fail
      refine (enter_any wr.heap.size (some ⟨w.heap.size, 0, none⟩) n n ys m _ _ (by omega) (by omega) ?r0 ?r1 ?r2 ?r3).mono ?_
      case r0 => exact hR.below ((Below.refl _ _).alloc (Nat.le_refl _) _)
      case r1 => go_simp
      case r2 => go_simp
      case r3 => go_simp
      rintro e w2 ⟨j, hj, rfl, hb2, hc1, hoth⟩
      have c0 : w2.cell? ⟨wr.heap.size, 0, none⟩ = some (.slice (some ⟨w.heap.size, 0, none⟩) n n) := (hoth 0 (by decide)).trans (by go_simp)
      have c2 : w2.cell? ⟨wr.heap.size, 2, none⟩ = some (.string { data := #[102, 105, 108, 101] }) := (hoth 2 (by decide)).trans (by go_simp)
      have c3 : w2.cell? ⟨wr.heap.size, 3, none⟩ = some (.slice none 0 0) := (hoth 3 (by decide)).trans (by go_simp)
      have hR2 := (hR.below ((Below.refl _ _).alloc (Nat.le_refl _) _)).below hb2
      have hW2 : Below w.heap.size w w2 := (hB.alloc (by omega) _).trans (hb2.mono (by omega))
      clear hoth hb2 hB hR hO
      go_wp2_with fail
      refine (model_any wr.heap.size _ n n ys m _ _ (by omega) (by omega) hR2).mono ?_
      rintro e w3 ⟨j', hj', rfl, rfl⟩
      obtain rfl := hj.unique hj'
      clear hj hj' hR2
      go_wp2
      go_ret
      exact ⟨rfl, hW2⟩

set_option maxHeartbeats 1000000 in
theorem shaped_none (a0 : Option Addr) (n c : Nat) (a1 a2 : Int) (w : World) (hn : n ≤ 0)
    (h1 : 0 ≤ a1) (h1' : a1 ≤ 18446744073709551615) (h2 : 0 ≤ a2) (h2' : a2 ≤ 255) :
    Calls Yba.prog 4 #[.slice a0 n c, .int .u64 a1, .int .u8 a2] w fun e w' => e = .returned (.bool true) ∧ Below w.heap.size w w' := by
  obtain ⟨i0, hi, hz0, hz1, hz2⟩ := info_parts Yba.info5
  obtain ⟨m, hmm, hmn⟩ := mod_nat a1 n
  go_enter Yba.func4, Yba.ntmps4
  go_wp2_with (first | (at_make; refine wpList_make_full _ rfl _ _ 22 rfl w.heap.size 5 i0 (.int .u8 0) 1 Yba.underlying22 hi hz0 hz1 _ _ _ _ n rfl rfl rfl rfl ?_ ?_ (Nat.le_refl _) ?_))
  · rw [hz2]; omega
  · unfold maxLen; omega
  intro w1 hown hgrow
  have hO : Own w1 w.heap.size n := Own.made (by rw [Nat.mul_one]; exact hown)
  have hB : Below w.heap.size w w1 := (Below.refl _ _).grown hgrow (Nat.le_refl _) (by simp)
  clear hown hgrow hi hz0 hz1 hz2
  go_wp2
  go_loopw [9] (fun t wr => ∃ k : Nat, t = .int .i64 k ∧ k ≤ n ∧ Own wr w.heap.size n ∧ Below w.heap.size w wr) (fun t _ => n - (intOf t).toNat)
  case atStart => exact ⟨0, rfl, Nat.zero_le _, hO, hB⟩
  case round =>
    clear hO hB
    obtain ⟨k, rfl, hk, hO, hB⟩ := hrel
    by_cases hlt : k < n
    · omega
    · obtain ⟨ys, hR⟩ := hO.row
      have hlt0 := hO.lt
      go_wp2_with fail
      refine (enter_any wr.heap.size (some ⟨w.heap.size, 0, none⟩) n n ys m _ _ (by omega) (by omega) ?r0 ?r1 ?r2 ?r3).mono ?_
      case r0 => exact hR.below ((Below.refl _ _).alloc (Nat.le_refl _) _)
      case r1 => go_simp
      case r2 => go_simp
      case r3 => go_simp
      rintro e w2 ⟨j, hj, rfl, hb2, hc1, hoth⟩
      have c0 : w2.cell? ⟨wr.heap.size, 0, none⟩ = some (.slice (some ⟨w.heap.size, 0, none⟩) n n) := (hoth 0 (by decide)).trans (by go_simp)
      have c2 : w2.cell? ⟨wr.heap.size, 2, none⟩ = some (.string { data := #[102, 105, 108, 101] }) := (hoth 2 (by decide)).trans (by go_simp)
      have c3 : w2.cell? ⟨wr.heap.size, 3, none⟩ = some (.slice none 0 0) := (hoth 3 (by decide)).trans (by go_simp)
      have hR2 := (hR.below ((Below.refl _ _).alloc (Nat.le_refl _) _)).below hb2
      have hW2 : Below w.heap.size w w2 := (hB.alloc (by omega) _).trans (hb2.mono (by omega))
      clear hoth hb2 hB hR hO
      go_wp2_with fail
      refine (model_any wr.heap.size _ n n ys m _ _ (by omega) (by omega) hR2).mono ?_
      rintro e w3 ⟨j', hj', rfl, rfl⟩
      obtain rfl := hj.unique hj'
      clear hj hj' hR2
      go_wp2
      go_ret
      exact ⟨rfl, hW2⟩
end Go.Proofs.Ybulkaola
