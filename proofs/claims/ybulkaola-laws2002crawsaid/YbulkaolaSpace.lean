import Derived.Test.YbulkaolaRows
import Derived.WalkKit
import Derived.ProofKit
import Derived.OpenShut
import Derived.Below
import Derived.Deep.QuietTactic
import Derived.BigQuiet
namespace Go.Proofs.Ybulkaola
open Go.ChangeShapes Go.WideShapes Go.ChangeAt Go.RowKit
set_option linter.unusedVariables false

/-- JSON white space. -/
def isSp (x : Int) : Bool := x == 32 || x == 9 || x == 10 || x == 13
/-- From i on the white space of the first n numbers ends at j. -/
def SpEnd (zs : List Int) (n i j : Nat) : Prop :=
  i ≤ j ∧ (∀ k, i ≤ k → k < j → k < n ∧ isSp (zs.getD k 0) = true) ∧ ¬ (j < n ∧ isSp (zs.getD j 0) = true)

theorem SpEnd.unique {zs : List Int} {n i j k : Nat} (h : SpEnd zs n i j) (g : SpEnd zs n i k) : j = k := by
  obtain ⟨h1, h2, h3⟩ := h
  obtain ⟨g1, g2, g3⟩ := g
  rcases Nat.lt_trichotomy j k with hl | hl | hl
  · exact absurd (g2 j h1 hl) h3
  · exact hl
  · exact absurd (h2 k g1 hl) g3

theorem sp_ext {zs : List Int} {n i k : Nat} (hall : ∀ m, i ≤ m → m < k → m < n ∧ isSp (zs.getD m 0) = true) (hlt : k < n) (hs : isSp (zs.getD k 0) = true) :
    ∀ m, i ≤ m → m < k + 1 → m < n ∧ isSp (zs.getD m 0) = true := by
  intro m h1 h2
  rcases Nat.lt_or_ge m k with h | h
  · exact hall m h1 h
  · obtain rfl : m = k := by omega
    exact ⟨hlt, hs⟩

set_option maxHeartbeats 400000 in
theorem space_at (b off n c : Nat) (zs : List Int) (i : Nat) (w : World) (hn : n ≤ 4096) (hi : i ≤ 8192)
    (hc : ∀ j, j < n → w.cell? ⟨b, off + j, none⟩ = some (.int .u8 (zs.getD j 0))) :
    Calls Yba.prog 8 #[.slice (some ⟨b, off, none⟩) n c, .int .i64 i] w fun e w' => ∃ j : Nat, e = .returned (.int .i64 j) ∧ SpEnd zs n i j ∧ w' = w := by
  go_enter Yba.func8, Yba.ntmps8
  go_wp2
  go_loop [1] (fun t => ∃ k : Nat, t = .int .i64 k ∧ i ≤ k ∧ k ≤ 8192 ∧ (∀ m, i ≤ m → m < k → m < n ∧ isSp (zs.getD m 0) = true)) (fun t => 8192 - (intOf t).toNat)
  case atStart => exact ⟨i, rfl, Nat.le_refl _, hi, fun m h1 h2 => by omega⟩
  case round =>
    obtain ⟨k, rfl, hik, hk, hall⟩ := hrel
    by_cases hlt : k < n
    · have hcell := hc k hlt
      go_wp2
      case roundEnd =>
        have hs : isSp (zs.getD k 0) = true := by simp_all [isSp]
        go_round
        case rel => exact ⟨k + 1, by go_num, by omega, by omega, sp_ext hall hlt hs⟩
        case measure => simp [intOf]; omega
      case roundEnd =>
        have hs : isSp (zs.getD k 0) = true := by simp_all [isSp]
        go_round
        case rel => exact ⟨k + 1, by go_num, by omega, by omega, sp_ext hall hlt hs⟩
        case measure => simp [intOf]; omega
      case roundEnd =>
        have hs : isSp (zs.getD k 0) = true := by simp_all [isSp]
        go_round
        case rel => exact ⟨k + 1, by go_num, by omega, by omega, sp_ext hall hlt hs⟩
        case measure => simp [intOf]; omega
      case roundEnd =>
        have hs : isSp (zs.getD k 0) = true := by simp_all [isSp]
        go_round
        case rel => exact ⟨k + 1, by go_num, by omega, by omega, sp_ext hall hlt hs⟩
        case measure => simp [intOf]; omega
      have hs : isSp (zs.getD k 0) = false := by simp_all [isSp]
      go_ret
      exact ⟨k, rfl, ⟨hik, hall, fun h => Bool.noConfusion (hs.symm.trans h.2)⟩, rfl⟩
    · go_wp2
      go_ret
      exact ⟨k, rfl, ⟨hik, hall, fun h => hlt h.1⟩, rfl⟩

theorem space_nil (a : Option Addr) (c : Nat) (zs : List Int) (i : Nat) (w : World) (hi : i ≤ 8192) :
    Calls Yba.prog 8 #[.slice a 0 c, .int .i64 i] w fun e w' => ∃ j : Nat, e = .returned (.int .i64 j) ∧ SpEnd zs 0 i j ∧ w' = w := by
  go_enter Yba.func8, Yba.ntmps8
  go_wp2
  go_loop [1] (fun t => t = .int .i64 i) (fun t => 0)
  case atStart => rfl
  case round =>
    subst hrel
    go_wp2
    go_ret
    exact ⟨i, rfl, ⟨Nat.le_refl _, fun m h1 h2 => by omega, fun h => by omega⟩, rfl⟩

/-- The byte at j, or 0 behind the end. -/
def byteAt (zs : List Int) (n j : Nat) : Int := if j < n then zs.getD j 0 else 0

theorem peek_in (D b off n c : Nat) (zs : List Int) (i : Nat) (w : World) (hn : n ≤ 4096) (hi : i < n)
    (h0 : w.cell? ⟨D, 0, none⟩ = some (.slice (some ⟨b, off, none⟩) n c)) (h1 : w.cell? ⟨D, 1, none⟩ = some (.int .i64 i))
    (hc : w.cell? ⟨b, off + i, none⟩ = some (.int .u8 (zs.getD i 0))) :
    Calls Yba.prog 9 #[.pointer (some ⟨D, 0, none⟩)] w fun e w' => e = .returned (.int .u8 (byteAt zs n i)) ∧ ∃ q, w' = w.drewN q := by
  have hd : decide ((n : Int) ≤ (i : Int)) = false := decide_eq_false (by omega)
  go_enter Yba.func9, Yba.ntmps9
  go_wp2
  go_quiet (fail)
  go_wp2
  go_quiet (fail)
  go_wp2
  go_ret
  exact ⟨by simp [byteAt, hi], _, World.drewN_drewN _ _ _⟩

theorem peek_out (D n c : Nat) (a : Option Addr) (zs : List Int) (i : Nat) (w : World) (hn : n ≤ 4096) (hi : n ≤ i) (hi2 : i ≤ 8192)
    (h0 : w.cell? ⟨D, 0, none⟩ = some (.slice a n c)) (h1 : w.cell? ⟨D, 1, none⟩ = some (.int .i64 i)) :
    Calls Yba.prog 9 #[.pointer (some ⟨D, 0, none⟩)] w fun e w' => e = .returned (.int .u8 (byteAt zs n i)) ∧ ∃ q, w' = w.drewN q := by
  have hd : decide ((n : Int) ≤ (i : Int)) = true := decide_eq_true (by omega)
  go_enter Yba.func9, Yba.ntmps9
  go_wp2
  go_quiet (fail)
  go_wp2
  go_ret
  exact ⟨by simp [byteAt, Nat.not_lt.2 hi], _, rfl⟩

/-- The bytes of a slice that is read lie below block B (or there are none). -/
def Row (w : World) (B : Nat) (a : Option Addr) (n : Nat) (zs : List Int) : Prop :=
  n = 0 ∨ ∃ b off, a = some ⟨b, off, none⟩ ∧ b < B ∧ ∀ j, j < n → w.cell? ⟨b, off + j, none⟩ = some (.int .u8 (zs.getD j 0))

theorem Row.below {w w' : World} {B : Nat} {a : Option Addr} {n : Nat} {zs : List Int} (h : Row w B a n zs) (hb : Below B w w') : Row w' B a n zs := by
  rcases h with h | ⟨b, off, rfl, hB, hc⟩
  · exact .inl h
  · exact .inr ⟨b, off, rfl, hB, fun j hj => (hb.cell (p := ⟨b, off + j, none⟩) hB).trans (hc j hj)⟩

theorem Row.drewN {w : World} {B : Nat} {a : Option Addr} {n : Nat} {zs : List Int} (h : Row w B a n zs) (q : Nat) : Row (w.drewN q) B a n zs := by
  rcases h with h | ⟨b, off, rfl, hB, hc⟩
  · exact .inl h
  · exact .inr ⟨b, off, rfl, hB, fun j hj => hc j hj⟩

theorem Row.setCell {w : World} {B : Nat} {a : Option Addr} {n : Nat} {zs : List Int} (h : Row w B a n zs) (o : Nat) (v : Value) : Row (w.setCell ⟨B, o, none⟩ v) B a n zs :=
  h.below ((Below.refl B w).setCell (p := ⟨B, o, none⟩) (Nat.le_refl _) v)

theorem space_any (B : Nat) (a : Option Addr) (n c : Nat) (zs : List Int) (i : Nat) (w : World) (hn : n ≤ 4096) (hi : i ≤ 8192) (hr : Row w B a n zs) :
    Calls Yba.prog 8 #[.slice a n c, .int .i64 i] w fun e w' => ∃ j : Nat, e = .returned (.int .i64 j) ∧ SpEnd zs n i j ∧ w' = w := by
  rcases hr with rfl | ⟨b, off, rfl, _, hc⟩
  · exact space_nil a c zs i w hi
  · exact space_at b off n c zs i w hn hi hc

theorem peek_any (B D : Nat) (a : Option Addr) (n c : Nat) (zs : List Int) (i : Nat) (w : World) (hn : n ≤ 4096) (hi : i ≤ 8192) (hr : Row w B a n zs)
    (h0 : w.cell? ⟨D, 0, none⟩ = some (.slice a n c)) (h1 : w.cell? ⟨D, 1, none⟩ = some (.int .i64 i)) :
    Calls Yba.prog 9 #[.pointer (some ⟨D, 0, none⟩)] w fun e w' => e = .returned (.int .u8 (byteAt zs n i)) ∧ ∃ q, w' = w.drewN q := by
  rcases Nat.lt_or_ge i n with h | h
  · rcases hr with rfl | ⟨b, off, rfl, _, hc⟩
    · omega
    · exact peek_in D b off n c zs i w hn h h0 h1 (hc i h)
  · exact peek_out D n c a zs i w hn h hi h0 h1
end Go.Proofs.Ybulkaola
