import Derived.Test.YbulkaopwApp
import Derived.Laws.CopyOwn
namespace Go.Proofs.Ybulkaopw
open Go.ChangeShapes Go.WideShapes Go.ChangeAt Go.RowKit
set_option linter.unusedVariables false

theorem Yba.size5' : (Yba.prog.info? 5).map (·.size) = some 1 := by kernel_rfl

def InRow (w : World) (B : Nat) (a : Option Addr) (n : Nat) (ps : List Nat) : Prop :=
  n = 0 ∨ ∃ b off, a = some ⟨b, off, none⟩ ∧ b < B ∧ ∀ j, j < n → w.cell? ⟨b, off + j, none⟩ = some (.int .u8 ((ps.getD j 0 : Nat) : Int))

theorem InRow.below {w w' : World} {B : Nat} {a : Option Addr} {n : Nat} {ps : List Nat} (h : InRow w B a n ps) (hb : Below B w w') : InRow w' B a n ps := by
  rcases h with h | ⟨b, off, rfl, hB, hc⟩
  · exact .inl h
  · exact .inr ⟨b, off, rfl, hB, fun j hj => (hb.cell (p := ⟨b, off + j, none⟩) hB).trans (hc j hj)⟩

theorem copy_own {w1 : World} {Bb n c : Nat} {a0 : Option Addr} {ps : List Nat} (B : Nat) (hB : B ≤ Bb) (hr : InRow w1 Bb a0 n ps) (hc : w1.heap[Bb]? = some (.cells (mkB n) 5 (0, 0))) (hl : ps.length = n) (hn : n ≤ 1024) :
    ∃ w2, (∀ ty, (Builtin.copy_ #[33, 33] ty #[.slice (some ⟨Bb, 0, none⟩) n n, .slice a0 n c]).run Yba.prog w1 = .ok (.int .i64 n) w2) ∧ Own w2 B (.slice (some ⟨Bb, 0, none⟩) n n) ps ∧ Below Bb w1 w2 := by
  have hcl : (mkB n).size = n := by simp [mkB, madeCells]
  rcases Nat.eq_zero_or_pos n with h0 | hpos
  · subst h0
    refine ⟨w1, fun ty => run_copy_none (P := Yba.prog) w1 33 33 ty 5 _ _ 0 0 0 c Yba.underlying33 Yba.size5' (by simp), ?_, Below.refl _ _⟩
    have : ps = [] := List.length_eq_zero_iff.1 hl
    subst this
    exact ⟨rfl, .inr ⟨Bb, 0, _, rfl, hB, hc, Nat.le_refl _, by unfold maxLen; omega, by rw [hcl], by simp [dcells]⟩⟩
  · rcases hr with h | ⟨b, off, rfl, hbb, hcell⟩
    · omega
    have hlen : (dcells ps).length = n := by simpa [dcells] using hl
    have hh := setRow_heap w1 Bb (mkB n) (splice (mkB n).toList 0 (dcells ps)).toArray 5 (0, 0) hc
    refine ⟨_, fun ty => ?_, ⟨by simp [dcells], .inr ⟨Bb, n, (splice (mkB n).toList 0 (dcells ps)).toArray, by rw [hl], hB, hh, by omega, by unfold maxLen; omega, ?_, ?_⟩⟩, below_setRow (Below.refl _ _) (Nat.le_refl _) _⟩
    · have := run_copy_row (P := Yba.prog) w1 33 33 ty 5 Bb 0 n n ⟨b, off, none⟩ n c (mkB n) 5 (dcells ps) Yba.underlying33 Yba.size5' hc (by simp [hlen])
        (fun j v hj => by
          have hj' : j < ps.length := by
            rcases Nat.lt_or_ge j ps.length with h | h
            · exact h
            · rw [List.getElem?_eq_none (by simpa [dcells] using h)] at hj; exact absurd hj (by simp)
          rw [add_plain, hcell j (by omega)]
          simpa [dcells, hj'] using hj)
        (by simp [hlen, hcl]) (fun v hv => by obtain ⟨x, _, rfl⟩ := List.mem_map.1 hv; rfl)
      simpa [splice, hlen, goInt] using this
    · simp [splice, hlen, hcl]
    · simp [splice, hl, dcells]

end Go.Proofs.Ybulkaopw
