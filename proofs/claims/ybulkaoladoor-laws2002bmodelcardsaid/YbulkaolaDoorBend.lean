import Derived.Test.YbulkaolaDoorVend
namespace Go.Proofs.YbulkaolaDoor
open Go.ChangeShapes Go.WideShapes Go.ChangeAt Go.RowKit
set_option linter.unusedVariables false

/-! The law's own model: where its readers will end, from position k on. -/
def tAt (zs : List Int) (esc : Bool) (k : Nat) : Nat := k + strL esc (zs.drop k)
def uAt (zs : List Int) (d : Int) (s esc : Bool) (k : Nat) : Nat := k + brL d s esc (zs.drop k)

section
variable {zs : List Int} {n k E : Nat} {d : Int} {esc : Bool}
theorem t_start (hl : Hid (zs.length = n)) (hlt : k < n) : Hid (sAt zs (k + 1) = tAt zs false (k + 1)) := by
  show sAt zs (k + 1) = _
  rw [sAt, if_pos (by rw [hl.out]; omega), tAt]
theorem t_esc (hl : Hid (zs.length = n)) (hlt : k < n) (hE : Hid (E = tAt zs true k)) : Hid (E = tAt zs false (k + 1)) := by
  refine hE.out.trans ?_
  rw [tAt, str_esc (by rw [hl.out]; exact hlt), tAt]; omega
theorem t_back (hl : Hid (zs.length = n)) (hlt : k < n) (hE : Hid (E = tAt zs false k)) (e : (zs[k]?.getD 0 == 92) = true) : Hid (E = tAt zs true (k + 1)) := by
  refine hE.out.trans ?_
  rw [tAt, str_back (by rw [hl.out]; exact hlt) (by simpa using e), tAt]; omega
theorem t_quote (hl : Hid (zs.length = n)) (hlt : k < n) (hE : Hid (E = tAt zs false k)) (e : (zs[k]?.getD 0 == 34) = true) : Hid (E = k + 1) := by
  refine hE.out.trans ?_
  rw [tAt, str_quote (by rw [hl.out]; exact hlt) (by simpa using e)]
theorem t_else (hl : Hid (zs.length = n)) (hlt : k < n) (hE : Hid (E = tAt zs false k)) (e1 : (zs[k]?.getD 0 == 92) = false) (e2 : (zs[k]?.getD 0 == 34) = false) : Hid (E = tAt zs false (k + 1)) := by
  refine hE.out.trans ?_
  rw [tAt, str_else (by rw [hl.out]; exact hlt) (by simpa using e1) (by simpa using e2), tAt]; omega
theorem t_end (hl : Hid (zs.length = n)) (hlt : ¬ k < n) (hk : k ≤ n) (hE : Hid (E = tAt zs esc k)) : Hid (E = n) := by
  refine hE.out.trans ?_
  rw [tAt, str_end (by rw [hl.out]; omega)]; omega

theorem u_start : Hid (bAt zs 0 k = uAt zs 0 false false k) := rfl
theorem u_esc (hl : Hid (zs.length = n)) (hlt : k < n) (hE : Hid (E = uAt zs d true true k)) : Hid (E = uAt zs d true false (k + 1)) := by
  refine hE.out.trans ?_
  rw [uAt, drop_at (by rw [hl.out]; exact hlt), brL, if_pos rfl, uAt]; omega
theorem u_back (hl : Hid (zs.length = n)) (hlt : k < n) (hE : Hid (E = uAt zs d true false k)) (e : (zs[k]?.getD 0 == 92) = true) : Hid (E = uAt zs d true true (k + 1)) := by
  refine hE.out.trans ?_
  rw [uAt, drop_at (by rw [hl.out]; exact hlt), brL, if_neg (by simp), if_pos (by simpa using e), uAt]; omega
theorem u_close (hl : Hid (zs.length = n)) (hlt : k < n) (hE : Hid (E = uAt zs d true false k)) (e1 : (zs[k]?.getD 0 == 92) = false) (e2 : (zs[k]?.getD 0 == 34) = true) : Hid (E = uAt zs d false false (k + 1)) := by
  refine hE.out.trans ?_
  rw [uAt, drop_at (by rw [hl.out]; exact hlt), brL, if_neg (by simp), if_neg (by simpa using e1), if_pos (by simpa using e2), uAt]; omega
theorem u_in (hl : Hid (zs.length = n)) (hlt : k < n) (hE : Hid (E = uAt zs d true false k)) (e1 : (zs[k]?.getD 0 == 92) = false) (e2 : (zs[k]?.getD 0 == 34) = false) : Hid (E = uAt zs d true false (k + 1)) := by
  refine hE.out.trans ?_
  rw [uAt, drop_at (by rw [hl.out]; exact hlt), brL, if_neg (by simp), if_neg (by simpa using e1), if_neg (by simpa using e2), uAt]; omega
theorem u_quote (hl : Hid (zs.length = n)) (hlt : k < n) (hE : Hid (E = uAt zs d false false k)) (e : (zs[k]?.getD 0 == 34) = true) : Hid (E = uAt zs d true false (k + 1)) := by
  refine hE.out.trans ?_
  rw [uAt, drop_at (by rw [hl.out]; exact hlt), brL, if_pos (by simpa using e), uAt]; omega
theorem u_open (hl : Hid (zs.length = n)) (hlt : k < n) (hE : Hid (E = uAt zs d false false k)) (e : (zs[k]?.getD 0 == 123) = true ∨ (zs[k]?.getD 0 == 91) = true) : Hid (E = uAt zs (d + 1) false false (k + 1)) :=
  st_open hl hlt hE e
theorem u_shut (hl : Hid (zs.length = n)) (hlt : k < n) (hE : Hid (E = uAt zs d false false k)) (e : (zs[k]?.getD 0 == 125) = true ∨ (zs[k]?.getD 0 == 93) = true) (hd : (d - 1 == 0) = false) : Hid (E = uAt zs (d - 1) false false (k + 1)) :=
  st_close hl hlt hE e hd
theorem u_last (hl : Hid (zs.length = n)) (hlt : k < n) (hE : Hid (E = uAt zs d false false k)) (e : (zs[k]?.getD 0 == 125) = true ∨ (zs[k]?.getD 0 == 93) = true) (hd : (d - 1 == 0) = true) : Hid (E = k + 1) :=
  st_last hl hlt hE e hd
theorem u_else (hl : Hid (zs.length = n)) (hlt : k < n) (hE : Hid (E = uAt zs d false false k)) (e1 : (zs[k]?.getD 0 == 34) = false) (e2 : (zs[k]?.getD 0 == 123) = false) (e3 : (zs[k]?.getD 0 == 91) = false)
    (e4 : (zs[k]?.getD 0 == 125) = false) (e5 : (zs[k]?.getD 0 == 93) = false) : Hid (E = uAt zs d false false (k + 1)) := st_else hl hlt hE e1 e2 e3 e4 e5
theorem u_end {s : Bool} (hl : Hid (zs.length = n)) (hlt : ¬ k < n) (hk : k ≤ n) (hE : Hid (E = uAt zs d s esc k)) : Hid (E = n) := by
  refine hE.out.trans ?_
  rw [uAt, drop_end (by rw [hl.out]; omega)]
  cases s <;> simp only [brL] <;> omega
end

theorem bend_out (a : Option Addr) (n c i : Nat) (w : World) (hn : n ≤ 4096) (hi : n ≤ i) (hi2 : i ≤ 8192) :
    Calls Ybad.prog 6 #[.slice a n c, .int .i64 i] w fun e w' => e = .returned (.int .i64 i) ∧ w' = w := by
  go_enter Ybad.func6, Ybad.ntmps6
  go_wp2
  go_ret
  exact ⟨rfl, rfl⟩

set_option maxHeartbeats 400000 in
theorem bend_quote (b off n c : Nat) (zs : List Int) (i : Nat) (w : World) (hn : n ≤ 4096) (hl : Hid (zs.length = n)) (hi : i < n)
    (hc : ∀ j, j < n → w.cell? ⟨b, off + j, none⟩ = some (.int .u8 (zs.getD j 0))) (hq : zs.getD i 0 = 34) :
    Calls Ybad.prog 6 #[.slice (some ⟨b, off, none⟩) n c, .int .i64 i] w fun e w' => e = .returned (.int .i64 (sAt zs (i + 1) : Nat)) ∧ w' = w := by
  have hcell0 : w.cell? ⟨b, off + i, none⟩ = some (.int .u8 34) := by rw [← hq]; exact hc i hi
  have HC : Hid (∀ j, j < n → w.cell? ⟨b, off + j, none⟩ = some (.int .u8 (zs.getD j 0))) := hc
  clear hc hq
  go_enter Ybad.func6, Ybad.ntmps6
  go_wp2
  clear hcell0
  go_loop [7, 8] (fun u t => ∃ (k : Nat) (esc : Bool), u = .bool esc ∧ t = .int .i64 k ∧ k ≤ n ∧ Hid (sAt zs (i + 1) = tAt zs esc k)) (fun _ t => n - (intOf t).toNat)
  case atStart => exact ⟨i + 1, false, rfl, by go_num, by omega, t_start hl hi⟩
  case round =>
    obtain ⟨k, esc, rfl, rfl, hk, hE⟩ := hrel
    by_cases hlt : k < n
    · have hcell := HC.out k hlt
      cases esc
      · go_wp2
        all_goals first
          | (have hE' := t_back hl hlt hE (by assumption)
             go_round
             case rel => exact ⟨k + 1, true, rfl, by go_num, by omega, hE'⟩
             case measure => simp [intOf]; omega)
          | (have hE' := t_quote hl hlt hE (by assumption)
             go_ret
             exact ⟨ret_int (by rw [hE'.out]; rfl), rfl⟩)
          | (have hE' := t_else hl hlt hE (by assumption) (by assumption)
             go_round
             case rel => exact ⟨k + 1, false, rfl, by go_num, by omega, hE'⟩
             case measure => simp [intOf]; omega)
      · have hE' := t_esc hl hlt hE
        go_wp2
        go_round
        case rel => exact ⟨k + 1, false, rfl, by go_num, by omega, hE'⟩
        case measure => simp [intOf]; omega
    · have hE' := t_end hl hlt hk hE
      go_wp2
      go_ret
      exact ⟨ret_int (by rw [hE'.out]), rfl⟩

set_option maxHeartbeats 400000 in
theorem bend_scalar (b off n c : Nat) (zs : List Int) (i : Nat) (w : World) (hn : n ≤ 4096) (hl : Hid (zs.length = n)) (hi : i < n)
    (hc : ∀ j, j < n → w.cell? ⟨b, off + j, none⟩ = some (.int .u8 (zs.getD j 0)))
    (h34 : (zs[i]?.getD 0 == 34) = false) (h123 : (zs[i]?.getD 0 == 123) = false) (h91 : (zs[i]?.getD 0 == 91) = false) :
    Calls Ybad.prog 6 #[.slice (some ⟨b, off, none⟩) n c, .int .i64 i] w fun e w' => e = .returned (.int .i64 (cAt zs i : Nat)) ∧ w' = w := by
  have hcell0 := hc i hi
  have hd : decide ((n : Int) ≤ (i : Int)) = false := decide_eq_false (by omega)
  have hd' : decide (n ≤ i) = false := decide_eq_false (by omega)
  go_enter Ybad.func6, Ybad.ntmps6
  go_wp2
  go_loop [14] (fun t => ∃ k : Nat, t = .int .i64 k ∧ k ≤ n ∧ Hid (cAt zs i = cAt zs k)) (fun t => n - (intOf t).toNat)
  case atStart => exact ⟨i, rfl, by omega, rfl⟩
  case round =>
    obtain ⟨k, rfl, hk, hE⟩ := hrel
    clear hcell0 h34 h123 h91
    by_cases hlt : k < n
    · have hcell := hc k hlt
      clear hc
      go_wp2_with (go_at_call 8; refine (stop_any _ _).mono ?_; rintro e w' ⟨rfl, rfl⟩)
      case roundEnd =>
        have e : (!stopB (zs[k]?.getD 0)) = true := by assumption
        have hE' := hE.out.trans (cAt_go (by rw [hl.out]; exact hlt) (by simpa using e))
        go_round
        case rel => exact ⟨k + 1, by go_num, by omega, hE'⟩
        case measure => simp [intOf]; omega
      have e : (!stopB (zs[k]?.getD 0)) = false := by assumption
      have hE' := hE.out.trans (cAt_stop (by rw [hl.out]; exact hlt) (by simpa using e))
      go_ret
      exact ⟨ret_int (by rw [hE']), rfl⟩
    · clear hc
      go_wp2
      have hE' := hE.out.trans (cAt_end (by rw [hl.out]; omega))
      go_ret
      exact ⟨ret_int (by rw [hE']), rfl⟩

set_option maxHeartbeats 1000000 in
theorem bend_open (b off n c : Nat) (zs : List Int) (i : Nat) (w : World) (hn : n ≤ 4096) (hl : Hid (zs.length = n)) (hi : i < n)
    (hc : ∀ j, j < n → w.cell? ⟨b, off + j, none⟩ = some (.int .u8 (zs.getD j 0)))
    (hx : zs.getD i 0 = 123 ∨ zs.getD i 0 = 91) :
    Calls Ybad.prog 6 #[.slice (some ⟨b, off, none⟩) n c, .int .i64 i] w fun e w' => e = .returned (.int .i64 (bAt zs 0 i : Nat)) ∧ w' = w := by
  have hcell0 : w.cell? ⟨b, off + i, none⟩ = some (.int .u8 (zs.getD i 0)) := hc i hi
  have HC : Hid (∀ j, j < n → w.cell? ⟨b, off + j, none⟩ = some (.int .u8 (zs.getD j 0))) := hc
  have hdd : decide ((n : Int) ≤ (i : Int)) = false := decide_eq_false (by omega)
  have hdd' : decide (n ≤ i) = false := decide_eq_false (by omega)
  clear hc
  rcases hx with hx | hx
  all_goals
    rw [hx] at hcell0
    clear hx
    go_enter Ybad.func6, Ybad.ntmps6
    go_wp2
    clear hcell0
    go_loop [9, 10, 11, 12] (fun u s e t => ∃ (k : Nat) (d : Int) (st esc : Bool), u = .int .i64 d ∧ s = .bool st ∧ e = .bool esc ∧ t = .int .i64 k ∧ k ≤ n ∧ -(k : Int) ≤ d ∧ d ≤ k ∧ (st = false → esc = false) ∧ Hid (bAt zs 0 i = uAt zs d st esc k)) (fun _ _ _ t => n - (intOf t).toNat)
    case atStart => exact ⟨i, 0, false, false, rfl, rfl, rfl, rfl, by omega, by omega, by omega, fun _ => rfl, u_start⟩
    case round =>
      obtain ⟨k, d, st, esc, rfl, rfl, rfl, rfl, hk, hd0, hd1, hse, hE⟩ := hrel
      by_cases hlt : k < n
      · have hcell := HC.out k hlt
        cases st
        · obtain rfl := hse rfl
          clear hse
          go_wp2
          all_goals first
            | (have hE' := u_quote hl hlt hE (by assumption)
               go_round
               case rel => exact ⟨k + 1, d, true, false, rfl, rfl, rfl, by go_num, by omega, by omega, by omega, by simp, hE'⟩
               case measure => simp [intOf]; omega)
            | (have hE' := u_open hl hlt hE (by first | exact .inl (by assumption) | exact .inr (by assumption))
               go_round
               case rel => exact ⟨k + 1, d + 1, false, false, rfl, rfl, rfl, by go_num, by omega, by omega, by omega, by simp, hE'⟩
               case measure => simp [intOf]; omega)
            | (have hd : (d - 1 == 0) = true := by assumption
               have hE' := u_last hl hlt hE (by first | exact .inl (by assumption) | exact .inr (by assumption)) hd
               go_ret
               exact ⟨ret_int (by rw [hE'.out]; rfl), rfl⟩)
            | (have hd : (d - 1 == 0) = false := by assumption
               have hE' := u_shut hl hlt hE (by first | exact .inl (by assumption) | exact .inr (by assumption)) hd
               go_round
               case rel => exact ⟨k + 1, d - 1, false, false, rfl, rfl, rfl, by go_num, by omega, by omega, by omega, by simp, hE'⟩
               case measure => simp [intOf]; omega)
            | (have hE' := u_else hl hlt hE (by assumption) (by assumption) (by assumption) (by assumption) (by assumption)
               go_round
               case rel => exact ⟨k + 1, d, false, false, rfl, rfl, rfl, by go_num, by omega, by omega, by omega, by simp, hE'⟩
               case measure => simp [intOf]; omega)
        · clear hse
          cases esc
          · go_wp2
            all_goals first
              | (have hE' := u_back hl hlt hE (by assumption)
                 go_round
                 case rel => exact ⟨k + 1, d, true, true, rfl, rfl, rfl, by go_num, by omega, by omega, by omega, by simp, hE'⟩
                 case measure => simp [intOf]; omega)
              | (have hE' := u_close hl hlt hE (by assumption) (by assumption)
                 go_round
                 case rel => exact ⟨k + 1, d, false, false, rfl, rfl, rfl, by go_num, by omega, by omega, by omega, by simp, hE'⟩
                 case measure => simp [intOf]; omega)
              | (have hE' := u_in hl hlt hE (by assumption) (by assumption)
                 go_round
                 case rel => exact ⟨k + 1, d, true, false, rfl, rfl, rfl, by go_num, by omega, by omega, by omega, by simp, hE'⟩
                 case measure => simp [intOf]; omega)
          · have hE' := u_esc hl hlt hE
            go_wp2
            go_round
            case rel => exact ⟨k + 1, d, true, false, rfl, rfl, rfl, by go_num, by omega, by omega, by omega, by simp, hE'⟩
            case measure => simp [intOf]; omega
      · have hE' := u_end hl hlt hk hE
        clear hse
        go_wp2
        go_ret
        exact ⟨ret_int (by rw [hE'.out]), rfl⟩

theorem bend_any (B : Nat) (a : Option Addr) (n c : Nat) (zs : List Int) (i : Nat) (w : World) (hn : n ≤ 4096) (hl : zs.length = n) (hi : i ≤ n) (hr : Row w B a n zs) :
    Calls Ybad.prog 6 #[.slice a n c, .int .i64 i] w fun e w' => e = .returned (.int .i64 (valE zs i : Nat)) ∧ w' = w := by
  rcases Nat.lt_or_ge i n with hlt | hge
  · rcases hr with h | ⟨b, off, rfl, hB, hc⟩
    · omega
    · by_cases h34 : zs.getD i 0 = 34
      · rw [valE_quote (by omega) h34]
        exact bend_quote b off n c zs i w hn hl hlt hc h34
      · by_cases ho : zs.getD i 0 = 123 ∨ zs.getD i 0 = 91
        · rw [valE_open (by omega) ho]
          exact bend_open b off n c zs i w hn hl hlt hc ho
        · rw [valE_scalar (by omega) h34 ho]
          exact bend_scalar b off n c zs i w hn hl hlt hc (by simpa using h34) (by simpa using fun h => ho (.inl h)) (by simpa using fun h => ho (.inr h))
  · rw [valE_out (by omega)]
    exact bend_out a n c i w hn hge (by omega)
end Go.Proofs.YbulkaolaDoor
