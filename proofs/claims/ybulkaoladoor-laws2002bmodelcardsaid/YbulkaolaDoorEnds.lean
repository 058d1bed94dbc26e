import Derived.Test.YbulkaolaDoorRows
import Derived.Test.YbulkaolaDoorPlain
import Derived.WalkKit
import Derived.ProofKit
import Derived.OpenShut
import Derived.Below
import Derived.Deep.QuietTactic
import Derived.BigQuiet
namespace Go.Proofs.YbulkaolaDoor
open Go.ChangeShapes Go.WideShapes Go.ChangeAt Go.RowKit
set_option linter.unusedVariables false

/-- The bytes of a slice that is read lie below block B (or there are none). -/
def Row (w : World) (B : Nat) (a : Option Addr) (n : Nat) (zs : List Int) : Prop :=
  n = 0 ∨ ∃ b off, a = some ⟨b, off, none⟩ ∧ b < B ∧ ∀ j, j < n → w.cell? ⟨b, off + j, none⟩ = some (.int .u8 (zs.getD j 0))

theorem Row.below {w w' : World} {B : Nat} {a : Option Addr} {n : Nat} {zs : List Int} (h : Row w B a n zs) (hb : Below B w w') : Row w' B a n zs := by
  rcases h with h | ⟨b, off, rfl, hB, hc⟩
  · exact .inl h
  · exact .inr ⟨b, off, rfl, hB, fun j hj => (hb.cell (p := ⟨b, off + j, none⟩) hB).trans (hc j hj)⟩

theorem ret_int {k : IntKind} {a b : Int} (h : a = b) : Ending.returned (.int k a) = .returned (.int k b) := by rw [h]

set_option maxHeartbeats 400000 in
theorem string_at (b off n c : Nat) (zs : List Int) (i : Nat) (w : World) (hn : n ≤ 4096) (hl : Hid (zs.length = n)) (hi : i < n)
    (hc : ∀ j, j < n → w.cell? ⟨b, off + j, none⟩ = some (.int .u8 (zs.getD j 0))) :
    Calls Ybad.prog 10 #[.slice (some ⟨b, off, none⟩) n c, .int .i64 i] w fun e w' => e = .returned (.int .i64 (sAt zs (i + 1) : Nat)) ∧ w' = w := by
  go_enter Ybad.func10, Ybad.ntmps10
  go_wp2
  go_loop [1] (fun t => ∃ k : Nat, t = .int .i64 k ∧ k ≤ n + 1 ∧ Hid (sAt zs (i + 1) = sAt zs k)) (fun t => n + 1 - (intOf t).toNat)
  case atStart => exact ⟨i + 1, by go_num, by omega, rfl⟩
  case round =>
    obtain ⟨k, rfl, hk, hE⟩ := hrel
    by_cases hlt : k < n
    · have hcell := hc k hlt
      go_wp2
      case roundEnd =>
        have e : (zs[k]?.getD 0 == 92) = true := by assumption
        have hE' := hE.out.trans (sAt_back (by rw [hl.out]; exact hlt) (by simpa using e))
        go_round
        case rel => exact ⟨k + 2, by go_num, by omega, hE'⟩
        case measure => simp [intOf]; omega
      case roundEnd =>
        have e1 : (zs[k]?.getD 0 == 34) = false := by assumption
        have e2 : (zs[k]?.getD 0 == 92) = false := by assumption
        have hE' := hE.out.trans (sAt_else (by rw [hl.out]; exact hlt) (by simpa using e2) (by simpa using e1))
        go_round
        case rel => exact ⟨k + 1, by go_num, by omega, hE'⟩
        case measure => simp [intOf]; omega
      have e : (zs[k]?.getD 0 == 34) = true := by assumption
      have hE' := hE.out.trans (sAt_quote (by rw [hl.out]; exact hlt) (by simpa using e))
      go_ret
      exact ⟨ret_int (by rw [hE']; rfl), rfl⟩
    · go_wp2
      have hE' := hE.out.trans (sAt_end (by rw [hl.out]; omega))
      have hl' := hl.out
      go_ret
      exact ⟨ret_int (by rw [hE', hl']), rfl⟩

theorem stop_any (x : Int) (w : World) : Calls Ybad.prog 8 #[.int .u8 x] w fun e w' => e = .returned (.bool (stopB x)) ∧ w' = w := by
  go_enter Ybad.func8, Ybad.ntmps8
  go_wp2
  all_goals first
    | (have hs : stopB x = true := by simp_all [stopB]
       go_ret
       exact ⟨by rw [hs]; rfl, rfl⟩)
    | (have hs : stopB x = false := by simp_all [stopB]
       go_ret
       exact ⟨by rw [hs]; rfl, rfl⟩)
end Go.Proofs.YbulkaolaDoor
