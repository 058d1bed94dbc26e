import Derived.Test.YbulkaolaSpace
import Derived.Deep.RegionWith
import Derived.Deep.Cut
namespace Go.Proofs.Ybulkaola
open Go.ChangeShapes Go.WideShapes Go.ChangeAt Go.RowKit
set_option linter.unusedVariables false

/-- Where the reader stands behind the white space: past the closing byte, or at j. -/
def endAt (x cl : Int) (j : Nat) : Int := if x == cl then (j : Int) + 1 else j
theorem endAt_yes {x cl : Int} {j : Nat} (h : (x == cl) = true) : endAt x cl j = (j : Int) + 1 := by simp only [endAt, h, if_true]
theorem endAt_no {x cl : Int} {j : Nat} (h : (x == cl) = false) : endAt x cl j = j := by simp [endAt, h]
theorem byteAt_in {zs : List Int} {n j : Nat} (h : j < n) : byteAt zs n j = zs[j]?.getD 0 := by simp [byteAt, h]
theorem byteAt_out {zs : List Int} {n j : Nat} (h : ¬ j < n) : byteAt zs n j = 0 := by simp [byteAt, h]
theorem tup_yes {zs : List Int} {n j : Nat} {cl x : Int} (e : byteAt zs n j = x) (h : (x == cl) = true) :
    Ending.returned (.tuple #[.int .i64 ((j : Int) + 1), .bool false]) = .returned (.tuple #[.int .i64 (endAt (byteAt zs n j) cl j), .bool (!(byteAt zs n j == cl))]) := by
  rw [e, endAt_yes h, h]; rfl
theorem tup_no {zs : List Int} {n j : Nat} {cl x : Int} (e : byteAt zs n j = x) (h : (x == cl) = false) :
    Ending.returned (.tuple #[.int .i64 (j : Int), .bool true]) = .returned (.tuple #[.int .i64 (endAt (byteAt zs n j) cl j), .bool (!(byteAt zs n j == cl))]) := by
  rw [e, endAt_no h, h]; rfl

theorem sp_le {zs : List Int} {n i j : Nat} (h : SpEnd zs n i j) (hn : n ≤ 4096) (hi : i ≤ 8192) : j ≤ 8192 := by
  rcases Nat.lt_or_ge i j with hl | hl
  · have := (h.2.1 (j - 1) (by omega) (by omega)).1; omega
  · omega

theorem end_one {w : World} {D : Nat} {old : Value} (v : Value) (q : Nat) (h1 : w.cell? ⟨D, 1, none⟩ = some old) :
    Below D w ((w.setCell ⟨D, 1, none⟩ v).drewN q) ∧ ((w.setCell ⟨D, 1, none⟩ v).drewN q).cell? ⟨D, 1, none⟩ = some v ∧
      ∀ o, o ≠ 1 → ((w.setCell ⟨D, 1, none⟩ v).drewN q).cell? ⟨D, o, none⟩ = w.cell? ⟨D, o, none⟩ := by
  have hb := (Below.refl D w).setCell (p := ⟨D, 1, none⟩) (Nat.le_refl _) v
  refine ⟨⟨hb.os, hb.tape, hb.output, hb.size, hb.block⟩, ?_, ?_⟩
  · go_simp
  · intro o ho
    go_simp

theorem end_two {w : World} {D : Nat} {old : Value} (u v : Value) (q : Nat) (h1 : w.cell? ⟨D, 1, none⟩ = some old) :
    Below D w (((w.setCell ⟨D, 1, none⟩ u).drewN q).setCell ⟨D, 1, none⟩ v) ∧ (((w.setCell ⟨D, 1, none⟩ u).drewN q).setCell ⟨D, 1, none⟩ v).cell? ⟨D, 1, none⟩ = some v ∧
      ∀ o, o ≠ 1 → (((w.setCell ⟨D, 1, none⟩ u).drewN q).setCell ⟨D, 1, none⟩ v).cell? ⟨D, o, none⟩ = w.cell? ⟨D, o, none⟩ := by
  have E := end_one u q h1
  have F := end_one (w := (w.setCell ⟨D, 1, none⟩ u).drewN q) v 0 E.2.1
  exact ⟨E.1.trans F.1, F.2.1, fun o ho => (F.2.2 o ho).trans (E.2.2 o ho)⟩

set_option maxHeartbeats 400000 in
theorem enter_any (D : Nat) (a : Option Addr) (n c : Nat) (zs : List Int) (m : Nat) (cl : Int) (w : World) (hn : n ≤ 4096) (hm : m ≤ 8192) (hr : Row w D a n zs)
    (h0 : w.cell? ⟨D, 0, none⟩ = some (.slice a n c)) (h1 : w.cell? ⟨D, 1, none⟩ = some (.int .i64 ((m : Int) - 1))) (hf : w.frozen? ⟨D, 1, none⟩ = false) :
    Calls Yba.prog 6 #[.pointer (some ⟨D, 0, none⟩), .int .u8 cl] w fun e w' => ∃ j : Nat, SpEnd zs n m j ∧ e = .returned (.bool (!(byteAt zs n j == cl))) ∧
      Below D w w' ∧ w'.cell? ⟨D, 1, none⟩ = some (.int .i64 (endAt (byteAt zs n j) cl j)) ∧ ∀ o, o ≠ 1 → w'.cell? ⟨D, o, none⟩ = w.cell? ⟨D, o, none⟩ := by
  have hwm : IntKind.i64.wrap (m : Int) = m := by simp only [IntKind.wrap_i64]; omega
  go_enter Yba.func6, Yba.ntmps6
  go_wp2
  go_region_with (go_at_call 8; refine (space_any D _ _ _ zs m _ hn hm ?_).mono ?_; exact (hr.drewN 1); rintro e w' ⟨j, rfl, hj, rfl⟩)
  all_goals
    go_wp2_with fail
    refine (peek_any D D a n c zs j _ hn (sp_le hj hn hm) ?r0 ?r1 ?r2).mono ?_
    case r0 => exact (hr.setCell 1 _).drewN 1
    case r1 => go_simp
    case r2 => go_simp
    rintro e w' ⟨rfl, q, rfl⟩
    have hjl := sp_le hj hn hm
    cases hb : (byteAt zs n j == cl)
    · go_wp2
      go_ret
      have E := end_one (.int .i64 j) (1 + q) h1
      exact ⟨j, hj, by rw [hb]; rfl, E.1, by rw [endAt_no hb]; exact E.2.1, E.2.2⟩
    · go_wp2
      go_ret
      have E := end_two (.int .i64 j) (.int .i64 ((j : Int) + 1)) (1 + q) h1
      exact ⟨j, hj, by rw [hb]; rfl, E.1, by rw [endAt_yes hb]; exact E.2.1, E.2.2⟩

set_option maxHeartbeats 400000 in
theorem model_at (b off n c : Nat) (zs : List Int) (m : Nat) (cl : Int) (w : World) (hn : n ≤ 4096) (hm : m ≤ 8192)
    (hc : ∀ j, j < n → w.cell? ⟨b, off + j, none⟩ = some (.int .u8 (zs.getD j 0))) :
    Calls Yba.prog 7 #[.slice (some ⟨b, off, none⟩) n c, .int .i64 ((m : Int) - 1), .int .u8 cl] w fun e w' => ∃ j : Nat, SpEnd zs n m j ∧
      e = .returned (.tuple #[.int .i64 (endAt (byteAt zs n j) cl j), .bool (!(byteAt zs n j == cl))]) ∧ w' = w := by
  have hwm : IntKind.i64.wrap (m : Int) = m := by simp only [IntKind.wrap_i64]; omega
  go_enter Yba.func7, Yba.ntmps7
  go_wp2
  go_loop [8] (fun t => ∃ k : Nat, t = .int .i64 k ∧ m ≤ k ∧ k ≤ 8192 ∧ (∀ l, m ≤ l → l < k → l < n ∧ isSp (zs.getD l 0) = true)) (fun t => 8192 - (intOf t).toNat)
  case atStart => exact ⟨m, rfl, Nat.le_refl _, hm, fun l h1 h2 => by omega⟩
  case round =>
    obtain ⟨k, rfl, hik, hk, hall⟩ := hrel
    by_cases hlt : k < n
    · have hcell := hc k hlt
      go_wp2
      case roundEnd =>
        have hs : isSp (zs.getD k 0) = true := by simp_all [isSp]
        go_round
        case rel => exact ⟨k + 1, by go_num, by omega, by omega, sp_ext hall hlt hs⟩
        case measure => simp [intOf]; omega
      case roundEnd =>
        have hs : isSp (zs.getD k 0) = true := by simp_all [isSp]
        go_round
        case rel => exact ⟨k + 1, by go_num, by omega, by omega, sp_ext hall hlt hs⟩
        case measure => simp [intOf]; omega
      case roundEnd =>
        have hs : isSp (zs.getD k 0) = true := by simp_all [isSp]
        go_round
        case rel => exact ⟨k + 1, by go_num, by omega, by omega, sp_ext hall hlt hs⟩
        case measure => simp [intOf]; omega
      case roundEnd =>
        have hs : isSp (zs.getD k 0) = true := by simp_all [isSp]
        go_round
        case rel => exact ⟨k + 1, by go_num, by omega, by omega, sp_ext hall hlt hs⟩
        case measure => simp [intOf]; omega
      · have hs : isSp (zs.getD k 0) = false := by simp_all [isSp]
        have ht : (zs[k]?.getD 0 == cl) = true := by assumption
        go_ret2
        exact ⟨k, ⟨hik, hall, fun h => Bool.noConfusion (hs.symm.trans h.2)⟩, tup_yes (byteAt_in hlt) ht, rfl⟩
      · have hs : isSp (zs.getD k 0) = false := by simp_all [isSp]
        have ht : (zs[k]?.getD 0 == cl) = false := by assumption
        go_ret2
        exact ⟨k, ⟨hik, hall, fun h => Bool.noConfusion (hs.symm.trans h.2)⟩, tup_no (byteAt_in hlt) ht, rfl⟩
    · go_wp2
      · have ht : ((0 : Int) == cl) = true := by assumption
        go_ret2
        exact ⟨k, ⟨hik, hall, fun h => hlt h.1⟩, tup_yes (byteAt_out hlt) ht, rfl⟩
      · have ht : ((0 : Int) == cl) = false := by assumption
        go_ret2
        exact ⟨k, ⟨hik, hall, fun h => hlt h.1⟩, tup_no (byteAt_out hlt) ht, rfl⟩

theorem model_nil (a : Option Addr) (c : Nat) (zs : List Int) (m : Nat) (cl : Int) (w : World) (hm : m ≤ 8192) :
    Calls Yba.prog 7 #[.slice a 0 c, .int .i64 ((m : Int) - 1), .int .u8 cl] w fun e w' => ∃ j : Nat, SpEnd zs 0 m j ∧
      e = .returned (.tuple #[.int .i64 (endAt (byteAt zs 0 j) cl j), .bool (!(byteAt zs 0 j == cl))]) ∧ w' = w := by
  have hwm : IntKind.i64.wrap (m : Int) = m := by simp only [IntKind.wrap_i64]; omega
  go_enter Yba.func7, Yba.ntmps7
  go_wp2
  go_loop [8] (fun t => t = .int .i64 m) (fun t => 0)
  case atStart => rfl
  case round =>
    subst hrel
    go_wp2
    · have ht : ((0 : Int) == cl) = true := by assumption
      go_ret2
      exact ⟨m, ⟨Nat.le_refl _, fun l h1 h2 => by omega, fun h => by omega⟩, tup_yes (byteAt_out (by omega)) ht, rfl⟩
    · have ht : ((0 : Int) == cl) = false := by assumption
      go_ret2
      exact ⟨m, ⟨Nat.le_refl _, fun l h1 h2 => by omega, fun h => by omega⟩, tup_no (byteAt_out (by omega)) ht, rfl⟩

theorem model_any (B : Nat) (a : Option Addr) (n c : Nat) (zs : List Int) (m : Nat) (cl : Int) (w : World) (hn : n ≤ 4096) (hm : m ≤ 8192) (hr : Row w B a n zs) :
    Calls Yba.prog 7 #[.slice a n c, .int .i64 ((m : Int) - 1), .int .u8 cl] w fun e w' => ∃ j : Nat, SpEnd zs n m j ∧
      e = .returned (.tuple #[.int .i64 (endAt (byteAt zs n j) cl j), .bool (!(byteAt zs n j == cl))]) ∧ w' = w := by
  rcases hr with rfl | ⟨b, off, rfl, _, hc⟩
  · exact model_nil a c zs m cl w hm
  · exact model_at b off n c zs m cl w hn hm hc
end Go.Proofs.Ybulkaola
