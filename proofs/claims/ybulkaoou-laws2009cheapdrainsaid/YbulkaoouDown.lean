import Derived.Test.YbulkaoouLib
namespace Go.Proofs.Ybulkaoou
open Go.ChangeShapes Go.WideShapes Go.ChangeAt Go.RowKit
set_option linter.unusedVariables false

section
variable {w0 : World} {B D kd k : Nat} {ob : Nat → Nat} {f : Nat → Int} {v : Value}

set_option maxHeartbeats 1600000 in
theorem down_any (ss : List Nat) (w : World) (n : Nat) (hk : kd ≤ 1) (hm : ss.length ≤ 1024) (hn : n ≤ ss.length) (h : Inv w0 w B D kd ob k f v ss) (hinj : ∀ i j, i < ss.length → j < ss.length → at0 ss i = at0 ss j → i = j) (hDo : DownOk f ss n 0) :
    Calls Yba.prog 10 #[.iface 42 (.pointer (some ⟨D, 0, none⟩)), .int .i64 0, .int .i64 n] w fun e w' => ∃ b, e = .returned (.bool b) ∧ ∃ ss', Inv w0 w' B D kd ob k f v ss' ∧ Rel n ss ss' ∧ HeapOk f ss' n := by
  have hml := m_less
  have hms := m_swap
  go_enter Yba.func10, Yba.ntmps10
  go_wp2
  go_loopw [7] (fun t wr => ∃ (i : Nat) (ss' : List Nat), t = .int .i64 i ∧ i ≤ n ∧ Inv w0 wr B D kd ob k f v ss' ∧ Rel n ss ss' ∧ DownOk f ss' n i) (fun t _ => n - (intOf t).toNat)
  case atStart => exact ⟨0, ss, rfl, Nat.zero_le _, h, Rel.refl _ _, hDo⟩
  case round =>
    obtain ⟨i, ss', rfl, hil, hI, hR, hDn⟩ := hrel
    have HH : Hid (ss'.length = ss.length) := hR.len
    clear h hDo
    obtain ⟨c1, hc1⟩ : ∃ c1 : Nat, 2 * (i : Int) + 1 = (c1 : Int) := ⟨2 * i + 1, by omega⟩
    obtain ⟨c2, hc2⟩ : ∃ c2 : Nat, (c1 : Int) + 1 = (c2 : Int) := ⟨c1 + 1, by omega⟩
    by_cases h1 : c1 < n
    · by_cases h2 : c2 < n
      · have L : Hid (Calls Yba.prog 34 #[.pointer (some ⟨D, 0, none⟩), .int .i64 c2, .int .i64 c1] wr fun e w' => e = .returned (.bool (decide (f (at0 ss' c2) < f (at0 ss' c1)))) ∧ ∃ q, w' = wr.drewN q) :=
          hI.callLess (by rw [HH.out]; exact hm) (by rw [HH.out]; omega) (by rw [HH.out]; omega)
        go_wp2_with fail
        refine L.out.mono ?_
        rintro e w1 ⟨rfl, q, rfl⟩
        clear L
        have hI1 := hI.drewN q
        by_cases hl : f (at0 ss' c2) < f (at0 ss' c1)
        · have hdl : decide (f (at0 ss' c2) < f (at0 ss' c1)) = true := decide_eq_true hl
          have hmin : ∀ j, 0 < j → j < n → (j - 1) / 2 = i → f (at0 ss' c2) ≤ f (at0 ss' j) := fun j h0 hj hp => by
            rcases (show j = c1 ∨ j = c2 by omega) with rfl | rfl <;> omega
          clear hl
          have L2 : Hid (Calls Yba.prog 34 #[.pointer (some ⟨D, 0, none⟩), .int .i64 c2, .int .i64 i] (wr.drewN q) fun e w' => e = .returned (.bool (decide (f (at0 ss' c2) < f (at0 ss' i)))) ∧ ∃ r, w' = (wr.drewN q).drewN r) :=
            hI1.callLess (by rw [HH.out]; exact hm) (by rw [HH.out]; omega) (by rw [HH.out]; omega)
          go_wp2_with fail
          refine L2.out.mono ?_
          rintro e w3 ⟨rfl, q2, rfl⟩
          clear L2
          have hI2 : Inv w0 (wr.drewN (q + q2)) B D kd ob k f v ss' := by have := hI1.drewN q2; rwa [World.drewN_drewN] at this
          by_cases hs : f (at0 ss' c2) < f (at0 ss' i)
          · have hd : decide (f (at0 ss' c2) < f (at0 ss' i)) = true := decide_eq_true hs
            have hD2 := down_step (c := c2) (by rw [HH.out]; exact hn) (by omega) (by omega) (by omega) hDn hmin hs
            have hR2 := hR.trans (Rel.swap (n := n) (ss := ss') (i := i) (j := c2) (by rw [HH.out]; exact hn) (by omega) (by omega))
            have S := hI2.callSwap (i := i) (j := c2) hk (by rw [HH.out]; exact hm) (hR.inj hinj) (by rw [HH.out]; omega) (by rw [HH.out]; omega)
            have S' := hidd S
            clear S hs hDn hI hmin hR
            go_wp2_with fail
            refine S'.out.mono ?_
            rintro e w4 ⟨rfl, hI4⟩
            clear S'
            go_wp2
            go_roundw
            case rel => exact ⟨c2, swapL ss' i c2, rfl, by omega, hI4, hR2, hD2⟩
            case measure => simp [intOf]; omega
          · have hd : decide (f (at0 ss' c2) < f (at0 ss' i)) = false := decide_eq_false hs
            have hH := down_stop hDn hmin hs
            clear hs hDn hmin
            go_wp2
            go_ret
            exact ⟨_, rfl, ss', hI2, hR, hH⟩
        · have hdl : decide (f (at0 ss' c2) < f (at0 ss' c1)) = false := decide_eq_false hl
          have hmin : ∀ j, 0 < j → j < n → (j - 1) / 2 = i → f (at0 ss' c1) ≤ f (at0 ss' j) := fun j h0 hj hp => by
            rcases (show j = c1 ∨ j = c2 by omega) with rfl | rfl <;> omega
          clear hl
          have L2 : Hid (Calls Yba.prog 34 #[.pointer (some ⟨D, 0, none⟩), .int .i64 c1, .int .i64 i] (wr.drewN q) fun e w' => e = .returned (.bool (decide (f (at0 ss' c1) < f (at0 ss' i)))) ∧ ∃ r, w' = (wr.drewN q).drewN r) :=
            hI1.callLess (by rw [HH.out]; exact hm) (by rw [HH.out]; omega) (by rw [HH.out]; omega)
          go_wp2_with fail
          refine L2.out.mono ?_
          rintro e w3 ⟨rfl, q2, rfl⟩
          clear L2
          have hI2 : Inv w0 (wr.drewN (q + q2)) B D kd ob k f v ss' := by have := hI1.drewN q2; rwa [World.drewN_drewN] at this
          by_cases hs : f (at0 ss' c1) < f (at0 ss' i)
          · have hd : decide (f (at0 ss' c1) < f (at0 ss' i)) = true := decide_eq_true hs
            have hD2 := down_step (c := c1) (by rw [HH.out]; exact hn) (by omega) (by omega) (by omega) hDn hmin hs
            have hR2 := hR.trans (Rel.swap (n := n) (ss := ss') (i := i) (j := c1) (by rw [HH.out]; exact hn) (by omega) (by omega))
            have S := hI2.callSwap (i := i) (j := c1) hk (by rw [HH.out]; exact hm) (hR.inj hinj) (by rw [HH.out]; omega) (by rw [HH.out]; omega)
            have S' := hidd S
            clear S hs hDn hI hmin hR
            go_wp2_with fail
            refine S'.out.mono ?_
            rintro e w4 ⟨rfl, hI4⟩
            clear S'
            go_wp2
            go_roundw
            case rel => exact ⟨c1, swapL ss' i c1, rfl, by omega, hI4, hR2, hD2⟩
            case measure => simp [intOf]; omega
          · have hd : decide (f (at0 ss' c1) < f (at0 ss' i)) = false := decide_eq_false hs
            have hH := down_stop hDn hmin hs
            clear hs hDn hmin
            go_wp2
            go_ret
            exact ⟨_, rfl, ss', hI2, hR, hH⟩
      · have hmin : ∀ j, 0 < j → j < n → (j - 1) / 2 = i → f (at0 ss' c1) ≤ f (at0 ss' j) := fun j h0 hj hp => by
          obtain rfl : j = c1 := by omega
          exact Int.le_refl _
        have L2 : Hid (Calls Yba.prog 34 #[.pointer (some ⟨D, 0, none⟩), .int .i64 c1, .int .i64 i] wr fun e w' => e = .returned (.bool (decide (f (at0 ss' c1) < f (at0 ss' i)))) ∧ ∃ q, w' = (wr).drewN q) :=
          hI.callLess (by rw [HH.out]; exact hm) (by rw [HH.out]; omega) (by rw [HH.out]; omega)
        go_wp2_with fail
        refine L2.out.mono ?_
        rintro e w3 ⟨rfl, q2, rfl⟩
        clear L2
        have hI2 := hI.drewN q2
        by_cases hs : f (at0 ss' c1) < f (at0 ss' i)
        · have hd : decide (f (at0 ss' c1) < f (at0 ss' i)) = true := decide_eq_true hs
          have hD2 := down_step (c := c1) (by rw [HH.out]; exact hn) (by omega) (by omega) (by omega) hDn hmin hs
          have hR2 := hR.trans (Rel.swap (n := n) (ss := ss') (i := i) (j := c1) (by rw [HH.out]; exact hn) (by omega) (by omega))
          have S := hI2.callSwap (i := i) (j := c1) hk (by rw [HH.out]; exact hm) (hR.inj hinj) (by rw [HH.out]; omega) (by rw [HH.out]; omega)
          have S' := hidd S
          clear S hs hDn hI hmin hR
          go_wp2_with fail
          refine S'.out.mono ?_
          rintro e w4 ⟨rfl, hI4⟩
          clear S'
          go_wp2
          go_roundw
          case rel => exact ⟨c1, swapL ss' i c1, rfl, by omega, hI4, hR2, hD2⟩
          case measure => simp [intOf]; omega
        · have hd : decide (f (at0 ss' c1) < f (at0 ss' i)) = false := decide_eq_false hs
          have hH := down_stop hDn hmin hs
          clear hs hDn hmin
          go_wp2
          go_ret
          exact ⟨_, rfl, ss', hI2, hR, hH⟩
    · have hH := down_none hDn (by omega)
      clear hDn
      go_wp2
      go_ret
      exact ⟨_, rfl, ss', hI, hR, hH⟩
end
end Go.Proofs.Ybulkaoou
