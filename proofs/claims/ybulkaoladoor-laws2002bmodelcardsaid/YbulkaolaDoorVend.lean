import Derived.Test.YbulkaolaDoorEnds
namespace Go.Proofs.YbulkaolaDoor
open Go.ChangeShapes Go.WideShapes Go.ChangeAt Go.RowKit
set_option linter.unusedVariables false

theorem vend_out (a : Option Addr) (n c i : Nat) (w : World) (hn : n ≤ 4096) (hi : n ≤ i) (hi2 : i ≤ 8192) :
    Calls Ybad.prog 9 #[.slice a n c, .int .i64 i] w fun e w' => e = .returned (.int .i64 i) ∧ w' = w := by
  go_enter Ybad.func9, Ybad.ntmps9
  go_wp2
  go_loop [1] (fun t => t = .int .i64 i) (fun t => 0)
  case atStart => rfl
  case round =>
    subst hrel
    go_wp2
    go_ret
    exact ⟨rfl, rfl⟩

theorem vend_quote (b off n c : Nat) (zs : List Int) (i : Nat) (w : World) (hn : n ≤ 4096) (hl : Hid (zs.length = n)) (hi : i < n)
    (hc : ∀ j, j < n → w.cell? ⟨b, off + j, none⟩ = some (.int .u8 (zs.getD j 0))) (hq : zs.getD i 0 = 34) :
    Calls Ybad.prog 9 #[.slice (some ⟨b, off, none⟩) n c, .int .i64 i] w fun e w' => e = .returned (.int .i64 (sAt zs (i + 1) : Nat)) ∧ w' = w := by
  have hcell : w.cell? ⟨b, off + i, none⟩ = some (.int .u8 34) := by rw [← hq]; exact hc i hi
  have H := string_at b off n c zs i w hn hl hi hc
  have HH : Hid (Calls Ybad.prog 10 #[.slice (some ⟨b, off, none⟩) n c, .int .i64 i] w fun e w' => e = .returned (.int .i64 (sAt zs (i + 1) : Nat)) ∧ w' = w) := H
  clear hc hq H
  go_enter Ybad.func9, Ybad.ntmps9
  go_wp2_with fail
  refine HH.out.mono ?_
  rintro e w' ⟨rfl, rfl⟩
  go_wp2
  go_ret
  exact ⟨rfl, rfl⟩

set_option maxHeartbeats 400000 in
theorem vend_scalar (b off n c : Nat) (zs : List Int) (i : Nat) (w : World) (hn : n ≤ 4096) (hl : Hid (zs.length = n)) (hi : i < n)
    (hc : ∀ j, j < n → w.cell? ⟨b, off + j, none⟩ = some (.int .u8 (zs.getD j 0))) (hz : ∀ j : Nat, 0 ≤ zs[j]?.getD 0 ∧ zs[j]?.getD 0 ≤ 255)
    (hT : ∀ x : Int, 0 ≤ x → x ≤ 255 → w.cell? ⟨0, x.toNat, none⟩ = some (.bool (stopB x)))
    (h34 : (zs[i]?.getD 0 == 34) = false) (h123 : (zs[i]?.getD 0 == 123) = false) (h91 : (zs[i]?.getD 0 == 91) = false) :
    Calls Ybad.prog 9 #[.slice (some ⟨b, off, none⟩) n c, .int .i64 i] w fun e w' => e = .returned (.int .i64 (cAt zs i : Nat)) ∧ w' = w := by
  have hcell0 := hc i hi
  go_enter Ybad.func9, Ybad.ntmps9
  go_wp2
  go_loop [1] (fun t => ∃ k : Nat, t = .int .i64 k ∧ k ≤ n ∧ Hid (cAt zs i = cAt zs k)) (fun t => n - (intOf t).toNat)
  case atStart => exact ⟨i, rfl, by omega, rfl⟩
  case round =>
    obtain ⟨k, rfl, hk, hE⟩ := hrel
    clear hcell0 h34 h123 h91
    by_cases hlt : k < n
    · have hcell := hc k hlt
      have ⟨hz0, hz1⟩ := hz k
      have ht := hT _ hz0 hz1
      clear hc hz hT
      go_wp2
      case roundEnd =>
        have e : (!stopB (zs[k]?.getD 0)) = true := by assumption
        have hE' := hE.out.trans (cAt_go (by rw [hl.out]; exact hlt) (by simpa using e))
        go_round
        case rel => exact ⟨k + 1, by go_num, by omega, hE'⟩
        case measure => simp [intOf]; omega
      have e : (!stopB (zs[k]?.getD 0)) = false := by assumption
      have hE' := hE.out.trans (cAt_stop (by rw [hl.out]; exact hlt) (by simpa using e))
      go_ret
      exact ⟨ret_int (by rw [hE']), rfl⟩
    · clear hc hz hT
      go_wp2
      have hE' := hE.out.trans (cAt_end (by rw [hl.out]; omega))
      go_ret
      exact ⟨ret_int (by rw [hE']), rfl⟩

/-! The steps of the reader of brackets, in the walk's own forms. -/
section
variable {zs : List Int} {n k E : Nat} {d : Int}
theorem st_quote (hl : Hid (zs.length = n)) (hlt : k < n) (hE : Hid (E = bAt zs d k)) (e : (zs[k]?.getD 0 == 34) = true) : Hid (E = bAt zs d (sAt zs (k + 1))) :=
  hE.out.trans (bAt_quote (by rw [hl.out]; exact hlt) (by simpa using e))
theorem st_open (hl : Hid (zs.length = n)) (hlt : k < n) (hE : Hid (E = bAt zs d k)) (e : (zs[k]?.getD 0 == 123) = true ∨ (zs[k]?.getD 0 == 91) = true) : Hid (E = bAt zs (d + 1) (k + 1)) :=
  hE.out.trans (bAt_open (by rw [hl.out]; exact hlt) (by simpa using e))
theorem st_close (hl : Hid (zs.length = n)) (hlt : k < n) (hE : Hid (E = bAt zs d k)) (e : (zs[k]?.getD 0 == 125) = true ∨ (zs[k]?.getD 0 == 93) = true) (hd : (d - 1 == 0) = false) : Hid (E = bAt zs (d - 1) (k + 1)) :=
  hE.out.trans (bAt_close (by rw [hl.out]; exact hlt) (by simpa using e) (by simpa using hd))
theorem st_last (hl : Hid (zs.length = n)) (hlt : k < n) (hE : Hid (E = bAt zs d k)) (e : (zs[k]?.getD 0 == 125) = true ∨ (zs[k]?.getD 0 == 93) = true) (hd : (d - 1 == 0) = true) : Hid (E = k + 1) :=
  hE.out.trans (bAt_last (by rw [hl.out]; exact hlt) (by simpa using e) (by simpa using hd))
theorem st_else (hl : Hid (zs.length = n)) (hlt : k < n) (hE : Hid (E = bAt zs d k)) (e1 : (zs[k]?.getD 0 == 34) = false) (e2 : (zs[k]?.getD 0 == 123) = false) (e3 : (zs[k]?.getD 0 == 91) = false)
    (e4 : (zs[k]?.getD 0 == 125) = false) (e5 : (zs[k]?.getD 0 == 93) = false) : Hid (E = bAt zs d (k + 1)) := by
  simp only [beq_eq_false_iff_ne, ne_eq] at e1 e2 e3 e4 e5
  exact hE.out.trans (bAt_else (by rw [hl.out]; exact hlt) (by simpa using e1) (by simp; omega) (by simp; omega))
end

set_option maxHeartbeats 1000000 in
theorem vend_open (b off n c : Nat) (zs : List Int) (i : Nat) (w : World) (hn : n ≤ 4096) (hl : Hid (zs.length = n)) (hi : i < n)
    (hc : ∀ j, j < n → w.cell? ⟨b, off + j, none⟩ = some (.int .u8 (zs.getD j 0)))
    (hx : zs.getD i 0 = 123 ∨ zs.getD i 0 = 91) :
    Calls Ybad.prog 9 #[.slice (some ⟨b, off, none⟩) n c, .int .i64 i] w fun e w' => e = .returned (.int .i64 (bAt zs 0 i : Nat)) ∧ w' = w := by
  have hS : Hid (∀ k, k < n → Calls Ybad.prog 10 #[.slice (some ⟨b, off, none⟩) n c, .int .i64 k] w fun e w' => e = .returned (.int .i64 (sAt zs (k + 1) : Nat)) ∧ w' = w) := fun k hk => string_at b off n c zs k w hn hl hk hc
  have hcell0 : w.cell? ⟨b, off + i, none⟩ = some (.int .u8 (zs.getD i 0)) := hc i hi
  have HC : Hid (∀ j, j < n → w.cell? ⟨b, off + j, none⟩ = some (.int .u8 (zs.getD j 0))) := hc
  clear hc
  rcases hx with hx | hx
  all_goals
    rw [hx] at hcell0
    clear hx
    go_enter Ybad.func9, Ybad.ntmps9
    go_wp2
    clear hcell0
    go_loop [1, 5] (fun t u => ∃ (k : Nat) (d : Int), t = .int .i64 k ∧ u = .int .i64 d ∧ k ≤ n ∧ -(k : Int) ≤ d ∧ d ≤ k ∧ Hid (bAt zs 0 i = bAt zs d k)) (fun t _ => n - (intOf t).toNat)
    case atStart => exact ⟨i, 0, rfl, rfl, by omega, by omega, by omega, rfl⟩
    case round =>
      obtain ⟨k, d, rfl, rfl, hk, hd0, hd1, hE⟩ := hrel
      by_cases hlt : k < n
      · have hcell := HC.out k hlt
        have hsl := sAt_le zs (k + 1)
        have hsg := sAt_ge (zs := zs) (k := k + 1) (by rw [hl.out]; omega)
        rw [hl.out] at hsl
        go_wp2_with (go_at_call 10; refine (hS.out k hlt).mono ?_; rintro e w' ⟨rfl, rfl⟩)
        all_goals first
          | (have e : (zs[k]?.getD 0 == 34) = true := by assumption
             have hE' := st_quote hl hlt hE e
             go_round
             case rel => exact ⟨sAt zs (k + 1), d, rfl, rfl, hsl, by omega, by omega, hE'⟩
             case measure => simp [intOf]; omega)
          | (have hE' := st_open hl hlt hE (by first | exact .inl (by assumption) | exact .inr (by assumption))
             go_round
             case rel => exact ⟨k + 1, d + 1, by go_num, rfl, by omega, by omega, by omega, hE'⟩
             case measure => simp [intOf]; omega)
          | (have hd : (d - 1 == 0) = true := by assumption
             have hE' := st_last hl hlt hE (by first | exact .inl (by assumption) | exact .inr (by assumption)) hd
             go_ret
             exact ⟨ret_int (by rw [hE'.out]; rfl), rfl⟩)
          | (have hd : (d - 1 == 0) = false := by assumption
             have hE' := st_close hl hlt hE (by first | exact .inl (by assumption) | exact .inr (by assumption)) hd
             go_round
             case rel => exact ⟨k + 1, d - 1, by go_num, rfl, by omega, by omega, by omega, hE'⟩
             case measure => simp [intOf]; omega)
          | (have hE' := st_else hl hlt hE (by assumption) (by assumption) (by assumption) (by assumption) (by assumption)
             go_round
             case rel => exact ⟨k + 1, d, by go_num, rfl, by omega, by omega, by omega, hE'⟩
             case measure => simp [intOf]; omega)
      · go_wp2
        have hE' := hE.out.trans (bAt_end (by rw [hl.out]; omega))
        go_ret
        exact ⟨ret_int (by rw [hE']), rfl⟩

theorem vend_any (B : Nat) (a : Option Addr) (n c : Nat) (zs : List Int) (i : Nat) (w : World) (hn : n ≤ 4096) (hl : zs.length = n) (hi : i ≤ n) (hr : Row w B a n zs)
    (hz : ∀ j : Nat, 0 ≤ zs[j]?.getD 0 ∧ zs[j]?.getD 0 ≤ 255) (hT : ∀ x : Int, 0 ≤ x → x ≤ 255 → w.cell? ⟨0, x.toNat, none⟩ = some (.bool (stopB x))) :
    Calls Ybad.prog 9 #[.slice a n c, .int .i64 i] w fun e w' => e = .returned (.int .i64 (valE zs i : Nat)) ∧ w' = w := by
  rcases Nat.lt_or_ge i n with hlt | hge
  · rcases hr with h | ⟨b, off, rfl, hB, hc⟩
    · omega
    · by_cases h34 : zs.getD i 0 = 34
      · rw [valE_quote (by omega) h34]
        exact vend_quote b off n c zs i w hn hl hlt hc h34
      · by_cases ho : zs.getD i 0 = 123 ∨ zs.getD i 0 = 91
        · rw [valE_open (by omega) ho]
          exact vend_open b off n c zs i w hn hl hlt hc ho
        · rw [valE_scalar (by omega) h34 ho]
          exact vend_scalar b off n c zs i w hn hl hlt hc hz hT (by simpa using h34) (by simpa using fun h => ho (.inl h)) (by simpa using fun h => ho (.inr h))
  · rw [valE_out (by omega)]
    exact vend_out a n c i w hn hge (by omega)
end Go.Proofs.YbulkaolaDoor
