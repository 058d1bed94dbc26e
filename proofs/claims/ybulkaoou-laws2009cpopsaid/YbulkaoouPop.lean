import Derived.Test.YbulkaoouPopFn
namespace Go.Proofs.Ybulkaoou
open Go.ChangeShapes Go.WideShapes Go.ChangeAt Go.RowKit
set_option linter.unusedVariables false

set_option maxRecDepth 100000 in
theorem pop_big (a0 : Option Addr) (n c : Nat) (a1 : Int) (w : World) (hn : n = 0 ∨ 1024 < n) (hm : n ≤ maxLen) :
    Calls Yba.prog 3 #[.slice a0 n c, .int .u8 a1] w fun e w' => e = .returned (.bool true) ∧ Below w.heap.size w w' := by
  unfold maxLen at hm
  rcases hn with rfl | hn
  all_goals
    go_enter Yba.func3, Yba.ntmps3
    go_wp2
    go_ret
    exact ⟨rfl, Below.refl _ _⟩

set_option maxRecDepth 100000 in
set_option maxHeartbeats 1000000 in
theorem pop_walk0 (b off n c : Nat) (zs : List Int) (a1 : Int) (hkd : a1 % 2 = 0) (w : World) (hn0 : 0 < n) (hn : n ≤ 1024) (hb : b < w.heap.size) (h1 : 0 ≤ a1) (h1' : a1 ≤ 255)
    (hc : ∀ j, j < n → w.cell? ⟨b, off + j, none⟩ = some (.int .u64 (zs.getD j 0))) :
    Calls Yba.prog 3 #[.slice (some ⟨b, off, none⟩) n c, .int .u8 a1] w fun e w' => e = .returned (.bool true) ∧ Below w.heap.size w w' := by
  have hm1 := make_orders n hn
  have hm2 := make_entries n hn
  have hq : ((n : Int) == 0) = false := beq_eq_false_iff_ne.2 (by omega)
  have hq2 : decide ((1024 : Int) < (n : Int)) = false := decide_eq_false (by omega)
  go_enter Yba.func3, Yba.ntmps3
  go_wp2
  clear hm1 hm2
  go_loopw [10] (fun t wr => ∃ k : Nat, t = .int .i64 k ∧ k ≤ n ∧ St w wr w.heap.size k n zs 0) (fun t _ => n - (intOf t).toNat)
  case atStart => exact ⟨0, rfl, Nat.zero_le _, St.start⟩
  case round =>
    obtain ⟨k, rfl, hk, hS⟩ := hrel
    by_cases hlt : k < n
    · have hcell : wr.cell? ⟨b, off + k, none⟩ = some (.int .u64 (zs.getD k 0)) := (hS.below.cell (p := ⟨b, off + k, none⟩) hb).trans (hc k hlt)
      have f1 := hS.ord k hlt
      have f2 := hS.ordF k
      have f3 := hS.entO k hlt
      have f4 := hS.entL k hlt
      have f5 := hS.entF (k * 2)
      have f6 := hS.entF (k * 2 + 1)
      have hsz : w.heap.size + 1 < wr.heap.size := by have := hS.size; omega
      have hsz0 : w.heap.size < wr.heap.size := by omega
      have hbr : b < wr.heap.size := by omega
      simp only [Nat.lt_irrefl, if_false] at f1 f3 f4
      clear hc
      go_wp2
      go_roundw
      case rel => exact ⟨k + 1, by go_num, by omega, hS.step hlt _ rfl rfl⟩
      case measure => simp [intOf]; omega
    · obtain rfl : k = n := by omega
      have hP := St.pop (kd := 0) (by omega) hn0 hn hS
      have HP : Hid (Calls Yba.prog 5 #[.pointer (some ⟨wr.heap.size, 0, none⟩)] (wr.alloc (.cells #[.int .u8 0, .slice (some ⟨w.heap.size + 1, 0, none⟩) k k] 44)) fun e w' =>
        e = .returned (.iface 26 (.pointer (some ⟨w.heap.size + 2 + (k - 1), 0, none⟩))) ∧ Done w w' w.heap.size k zs 0 wr.heap.size) := hP
      clear hP hS hlt hk
      go_wp2_with fail
      refine HP.out.mono ?_
      rintro e w2 ⟨rfl, hD⟩
      clear HP
      have ha := as_order
      have hne := neq_same
      have d1 := hD.ent
      have d2 := hD.ord (k - 1) (by omega)
      have d3 := hD.lastO
      have d4 := hD.lastL
      have d5 := hD.lastK
      have d6 := hD.expO (k - 1) (by omega)
      generalize wr.heap.size = D at *
      go_wp2
      clear d2 d3 d4 d5 d6 wr
      go_loopw [16] (fun t wx => ∃ i q : Nat, t = .int .i64 i ∧ i ≤ k - 1 ∧ wx = w2.drewN q) (fun t _ => k - 1 - (intOf t).toNat)
      case atStart => exact ⟨0, 0, rfl, Nat.zero_le _, rfl⟩
      case round =>
        obtain ⟨i, q, rfl, hi, rfl⟩ := hrel
        by_cases hlt : i < k - 1
        · have e1 := hD.ord i (by omega)
          have e2 := hD.entO i hlt
          have e3 := hD.entL i hlt
          have e4 := hD.expK i hlt
          have e5 := hD.expO i (by omega)
          have e6 : w2.cell? ⟨b, off + i, none⟩ = some (.int .u64 (zs.getD i 0)) := (hD.below.cell (p := ⟨b, off + i, none⟩) hb).trans (hc i (by omega))
          have b1 : (i : Int) < (k : Int) := by omega
          have b2 : (i : Int) < ((k - 1 : Nat) : Int) := by omega
          clear hc
          go_wp2
          go_quiet (fail)
          go_wp2
          go_roundw
          case rel => exact ⟨i + 1, _, by go_num, by omega, rfl⟩
          case measure => simp [intOf]; omega
        · clear hc
          go_wp2
          go_ret
          exact ⟨rfl, below_drewN hD.below _⟩

set_option maxRecDepth 100000 in
set_option maxHeartbeats 1000000 in
theorem pop_walk1 (b off n c : Nat) (zs : List Int) (a1 : Int) (hkd : a1 % 2 = 1) (w : World) (hn0 : 0 < n) (hn : n ≤ 1024) (hb : b < w.heap.size) (h1 : 0 ≤ a1) (h1' : a1 ≤ 255)
    (hc : ∀ j, j < n → w.cell? ⟨b, off + j, none⟩ = some (.int .u64 (zs.getD j 0))) :
    Calls Yba.prog 3 #[.slice (some ⟨b, off, none⟩) n c, .int .u8 a1] w fun e w' => e = .returned (.bool true) ∧ Below w.heap.size w w' := by
  have hm1 := make_orders n hn
  have hm2 := make_entries n hn
  have hq : ((n : Int) == 0) = false := beq_eq_false_iff_ne.2 (by omega)
  have hq2 : decide ((1024 : Int) < (n : Int)) = false := decide_eq_false (by omega)
  go_enter Yba.func3, Yba.ntmps3
  go_wp2
  clear hm1 hm2
  go_loopw [10] (fun t wr => ∃ k : Nat, t = .int .i64 k ∧ k ≤ n ∧ St w wr w.heap.size k n zs 1) (fun t _ => n - (intOf t).toNat)
  case atStart => exact ⟨0, rfl, Nat.zero_le _, St.start⟩
  case round =>
    obtain ⟨k, rfl, hk, hS⟩ := hrel
    by_cases hlt : k < n
    · have hcell : wr.cell? ⟨b, off + k, none⟩ = some (.int .u64 (zs.getD k 0)) := (hS.below.cell (p := ⟨b, off + k, none⟩) hb).trans (hc k hlt)
      have f1 := hS.ord k hlt
      have f2 := hS.ordF k
      have f3 := hS.entO k hlt
      have f4 := hS.entL k hlt
      have f5 := hS.entF (k * 2)
      have f6 := hS.entF (k * 2 + 1)
      have hsz : w.heap.size + 1 < wr.heap.size := by have := hS.size; omega
      have hsz0 : w.heap.size < wr.heap.size := by omega
      have hbr : b < wr.heap.size := by omega
      simp only [Nat.lt_irrefl, if_false] at f1 f3 f4
      clear hc
      go_wp2
      go_roundw
      case rel => exact ⟨k + 1, by go_num, by omega, hS.step hlt _ rfl rfl⟩
      case measure => simp [intOf]; omega
    · obtain rfl : k = n := by omega
      have hP := St.pop (kd := 1) (by omega) hn0 hn hS
      have HP : Hid (Calls Yba.prog 5 #[.pointer (some ⟨wr.heap.size, 0, none⟩)] (wr.alloc (.cells #[.int .u8 1, .slice (some ⟨w.heap.size + 1, 0, none⟩) k k] 44)) fun e w' =>
        e = .returned (.iface 26 (.pointer (some ⟨w.heap.size + 2 + (k - 1), 0, none⟩))) ∧ Done w w' w.heap.size k zs 1 wr.heap.size) := hP
      clear hP hS hlt hk
      go_wp2_with fail
      refine HP.out.mono ?_
      rintro e w2 ⟨rfl, hD⟩
      clear HP
      have ha := as_order
      have hne := neq_same
      have d1 := hD.ent
      have d2 := hD.ord (k - 1) (by omega)
      have d3 := hD.lastO
      have d4 := hD.lastL
      have d5 := hD.lastK
      have d6 := hD.expO (k - 1) (by omega)
      generalize wr.heap.size = D at *
      go_wp2
      clear d2 d3 d4 d5 d6 wr
      go_loopw [16] (fun t wx => ∃ i q : Nat, t = .int .i64 i ∧ i ≤ k - 1 ∧ wx = w2.drewN q) (fun t _ => k - 1 - (intOf t).toNat)
      case atStart => exact ⟨0, 0, rfl, Nat.zero_le _, rfl⟩
      case round =>
        obtain ⟨i, q, rfl, hi, rfl⟩ := hrel
        by_cases hlt : i < k - 1
        · have e1 := hD.ord i (by omega)
          have e2 := hD.entO i hlt
          have e3 := hD.entL i hlt
          have e4 := hD.expK i hlt
          have e5 := hD.expO i (by omega)
          have e6 : w2.cell? ⟨b, off + i, none⟩ = some (.int .u64 (zs.getD i 0)) := (hD.below.cell (p := ⟨b, off + i, none⟩) hb).trans (hc i (by omega))
          have b1 : (i : Int) < (k : Int) := by omega
          have b2 : (i : Int) < ((k - 1 : Nat) : Int) := by omega
          clear hc
          go_wp2
          go_quiet (fail)
          go_wp2
          go_roundw
          case rel => exact ⟨i + 1, _, by go_num, by omega, rfl⟩
          case measure => simp [intOf]; omega
        · clear hc
          go_wp2
          go_ret
          exact ⟨rfl, below_drewN hD.below _⟩
end Go.Proofs.Ybulkaoou
