import Derived.Test.YbulkaolaDoorVend
import Derived.Deep.RegionWith
import Derived.OwnWalk
import Derived.WalkSpells
import Derived.WalkLawsBesides
import Derived.Shelf.Bytes.SlEqualAll
namespace Go.Proofs.YbulkaolaDoor
open Go.ChangeShapes Go.WideShapes Go.ChangeAt Go.RowKit
set_option linter.unusedVariables false

/-- The table of stop bytes lies in the first block. -/
def TabAt (w : World) : Prop := ∀ x : Int, 0 ≤ x → x ≤ 255 → w.cell? ⟨0, x.toNat, none⟩ = some (.bool (stopB x))
theorem TabAt.below {w w' : World} {B : Nat} (h : TabAt w) (hB : 0 < B) (hb : Below B w w') : TabAt w' :=
  fun x h0 h1 => (hb.cell (p := ⟨0, x.toNat, none⟩) hB).trans (h x h0 h1)

theorem end_one {w : World} {D : Nat} {old : Value} (v : Value) (q : Nat) (h1 : w.cell? ⟨D, 1, none⟩ = some old) :
    Below D w ((w.setCell ⟨D, 1, none⟩ v).drewN q) ∧ ((w.setCell ⟨D, 1, none⟩ v).drewN q).cell? ⟨D, 1, none⟩ = some v ∧
      ∀ o, o ≠ 1 → ((w.setCell ⟨D, 1, none⟩ v).drewN q).cell? ⟨D, o, none⟩ = w.cell? ⟨D, o, none⟩ := by
  have hb := (Below.refl D w).setCell (p := ⟨D, 1, none⟩) (Nat.le_refl _) v
  refine ⟨⟨hb.os, hb.tape, hb.output, hb.size, hb.block⟩, ?_, ?_⟩
  · go_simp
  · intro o ho
    go_simp

theorem row_cut {w : World} {D b n i E : Nat} {zs : List Int} (h : Row w D (some ⟨b, 0, none⟩) n zs) (hi : i ≤ n) (hE : E ≤ n) :
    Row w D (if n = i then some ⟨b, 0, none⟩ else some ⟨b, i, none⟩) (E - i) (zs.drop i) := by
  by_cases h0 : n = i
  · exact .inl (by omega)
  · rw [if_neg h0]
    rcases h with h | ⟨b', off, e, hB, hc⟩
    · omega
    · simp only [Option.some.injEq, Addr.mk.injEq, and_true] at e
      obtain ⟨rfl, rfl⟩ := e
      refine .inr ⟨b, i, rfl, hB, fun j hj => ?_⟩
      have := hc (i + j) (by omega)
      rw [Nat.zero_add] at this
      rw [this]
      simp

set_option maxHeartbeats 400000 in
theorem value_walk (D b n : Nat) (zs : List Int) (i : Nat) (w : World) (hn : n ≤ 4096) (hl : zs.length = n) (hi : i ≤ n) (hr : Row w D (some ⟨b, 0, none⟩) n zs)
    (hz : ∀ j : Nat, 0 ≤ zs[j]?.getD 0 ∧ zs[j]?.getD 0 ≤ 255) (hT : TabAt w)
    (h0 : w.cell? ⟨D, 0, none⟩ = some (.slice (some ⟨b, 0, none⟩) n n)) (h1 : w.cell? ⟨D, 1, none⟩ = some (.int .i64 i)) (hf : w.frozen? ⟨D, 1, none⟩ = false) :
    Calls Ybad.prog 5 #[.pointer (some ⟨D, 0, none⟩)] w fun e w' => e = .returned (.slice (if n = i then some ⟨b, 0, none⟩ else some ⟨b, i, none⟩) (valE zs i - i) (n - i)) ∧ ∃ q, w' = (w.setCell ⟨D, 1, none⟩ (.int .i64 (valE zs i : Nat))).drewN q := by
  have hge := valE_ge zs i
  have hle := valE_le (zs := zs) (p := i) (by omega)
  rw [hl] at hle
  have H : Hid (Calls Ybad.prog 9 #[.slice (some ⟨b, 0, none⟩) n n, .int .i64 i] w fun e w' => e = .returned (.int .i64 (valE zs i : Nat)) ∧ w' = w) := vend_any D _ n n zs i w hn hl hi hr hz hT
  clear hr hz hT hl
  generalize valE zs i = E at *
  go_enter Ybad.func5, Ybad.ntmps5
  go_wp2_with fail
  refine H.out.mono ?_
  rintro e w' ⟨rfl, rfl⟩
  clear H
  go_wp2
  go_quiet (fail)
  go_wp2
  all_goals
    go_ret
    exact ⟨rfl, _, rfl⟩

/-- (*decoder).value, as the callers want it. -/
theorem value_any (D b n : Nat) (zs : List Int) (i : Nat) (w : World) (hn : n ≤ 4096) (hl : zs.length = n) (hi : i ≤ n) (hr : Row w D (some ⟨b, 0, none⟩) n zs)
    (hz : ∀ j : Nat, 0 ≤ zs[j]?.getD 0 ∧ zs[j]?.getD 0 ≤ 255) (hT : TabAt w)
    (h0 : w.cell? ⟨D, 0, none⟩ = some (.slice (some ⟨b, 0, none⟩) n n)) (h1 : w.cell? ⟨D, 1, none⟩ = some (.int .i64 i)) (hf : w.frozen? ⟨D, 1, none⟩ = false) :
    Calls Ybad.prog 5 #[.pointer (some ⟨D, 0, none⟩)] w fun e w' => ∃ a' c', e = .returned (.slice a' (valE zs i - i) c') ∧ Row w' D a' (valE zs i - i) (zs.drop i) ∧
      Below D w w' ∧ w'.cell? ⟨D, 1, none⟩ = some (.int .i64 (valE zs i : Nat)) ∧ ∀ o, o ≠ 1 → w'.cell? ⟨D, o, none⟩ = w.cell? ⟨D, o, none⟩ := by
  refine (value_walk D b n zs i w hn hl hi hr hz hT h0 h1 hf).mono ?_
  rintro e w' ⟨rfl, q, rfl⟩
  have E := end_one (.int .i64 (valE zs i : Nat)) q h1
  have hle := valE_le (zs := zs) (p := i) (by omega)
  exact ⟨_, _, rfl, row_cut (hr.below E.1) hi (by omega), E.1, E.2.1, E.2.2⟩

/-! bytes.Equal of two slices of the same bytes. -/
theorem Row.bytesIn {w : World} {B : Nat} {a : Option Addr} {n : Nat} {zs : List Int} (h : Row w B a n zs) : Lib.BytesIn w a n zs := fun hn => by
  rcases h with h | ⟨b, off, rfl, hB, hc⟩
  · omega
  · exact ⟨b, off, rfl, hc⟩

theorem equal_same (B B' : Nat) (p1 p2 : Option Addr) (n c d : Nat) (xs : List Int) (w : World) (hx : xs.length = n) (h1 : Row w B p1 n xs) (h2 : Row w B' p2 n xs) :
    Calls Ybad.prog 7 #[.slice p1 n c, .slice p2 n d] w fun e w' => e = .returned (.bool true) ∧ w' = w := by
  have e1 := h1.bytesIn.convert (P := Ybad.prog) hx c 22 5 9 Ybad.underlying22 Ybad.underlying5 Ybad.underlying9
  have e2 := h2.bytesIn.convert (P := Ybad.prog) hx d 22 5 9 Ybad.underlying22 Ybad.underlying5 Ybad.underlying9
  clear h1 h2 hx
  generalize strOfNums xs = S at *
  go_enter Ybad.func7, Ybad.ntmps7
  go_wp2
  go_ret
  exact ⟨rfl, rfl⟩
end Go.Proofs.YbulkaolaDoor
