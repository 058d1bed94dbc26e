import Derived.Test.YbulkaoouInv
namespace Go.Proofs.Ybulkaoou
open Go.ChangeShapes Go.WideShapes Go.ChangeAt Go.RowKit
set_option linter.unusedVariables false

theorem m_less (a : Addr) (w : World) : (method 211 42 (.pointer (some a)) "Less").run Yba.prog w = .ok (34, .pointer (some a)) w := by kernel_rfl
theorem m_swap (a : Addr) (w : World) : (method 211 42 (.pointer (some a)) "Swap").run Yba.prog w = .ok (35, .pointer (some a)) w := by kernel_rfl
theorem m_len (a : Addr) (w : World) : (method 211 42 (.pointer (some a)) "Len").run Yba.prog w = .ok (7, .pointer (some a)) w := by kernel_rfl
theorem m_pop (a : Addr) (w : World) : (method 211 42 (.pointer (some a)) "Pop").run Yba.prog w = .ok (5, .pointer (some a)) w := by kernel_rfl

section
variable {w0 : World} {B D kd k : Nat} {ob : Nat → Nat} {f : Nat → Int} {v : Value}

set_option maxHeartbeats 400000 in
theorem up_any (ss : List Nat) (w : World) (j0 : Nat) (hk : kd ≤ 1) (hm : ss.length ≤ 1024) (hj : j0 < ss.length) (h : Inv w0 w B D kd ob k f v ss) (hinj : ∀ i j, i < ss.length → j < ss.length → at0 ss i = at0 ss j → i = j) (hU : UpOk f ss ss.length j0) :
    Calls Yba.prog 11 #[.iface 42 (.pointer (some ⟨D, 0, none⟩)), .int .i64 j0] w fun e w' => e = .returned (.tuple #[]) ∧ ∃ ss', Inv w0 w' B D kd ob k f v ss' ∧ Rel ss.length ss ss' ∧ HeapOk f ss' ss.length := by
  go_enter Yba.func11, Yba.ntmps11
  go_wp2
  go_loopw [1] (fun t wr => ∃ (j : Nat) (ss' : List Nat), t = .int .i64 j ∧ j < ss.length ∧ Inv w0 wr B D kd ob k f v ss' ∧ Rel ss.length ss ss' ∧ UpOk f ss' ss.length j) (fun t _ => (intOf t).toNat)
  case atStart => exact ⟨j0, ss, rfl, hj, h, Rel.refl _ _, hU⟩
  case round =>
    obtain ⟨j, ss', rfl, hjl, hI, hR, hU'⟩ := hrel
    have hlen := hR.len
    have HH : Hid (ss'.length = ss.length) := hlen
    clear hlen h
    by_cases hj0 : j = 0
    · subst hj0
      have hH := up_root hU'
      go_wp2
      go_end0
      exact ⟨rfl, ss', hI, hR, hH⟩
    · have hml := m_less
      have hms := m_swap
      obtain ⟨i, hi⟩ : ∃ i : Nat, ((j : Int) - 1) / 2 = (i : Int) := ⟨(j - 1) / 2, by omega⟩
      have hij : i < j := by omega
      have HI : Hid ((j - 1) / 2 = i) := by show (j - 1) / 2 = i; omega
      have L : Hid (Calls Yba.prog 34 #[.pointer (some ⟨D, 0, none⟩), .int .i64 j, .int .i64 i] wr fun e w' => e = .returned (.bool (decide (f (at0 ss' j) < f (at0 ss' i)))) ∧ ∃ q, w' = wr.drewN q) :=
        hI.callLess (by rw [HH.out]; exact hm) (by rw [HH.out]; exact hjl) (by rw [HH.out]; omega)
      go_wp2_with fail
      refine L.out.mono ?_
      rintro e w1 ⟨rfl, q, rfl⟩
      clear L
      have hI1 := hI.drewN q
      by_cases hs : f (at0 ss' j) < f (at0 ss' i)
      · have hd : decide (f (at0 ss' j) < f (at0 ss' i)) = true := decide_eq_true hs
        have S : Hid (Calls Yba.prog 35 #[.pointer (some ⟨D, 0, none⟩), .int .i64 i, .int .i64 j] (wr.drewN q) fun e w' => e = .returned (.tuple #[]) ∧ Inv w0 w' B D kd ob k f v (swapL ss' i j)) :=
          hI1.callSwap hk (by rw [HH.out]; exact hm) (hR.inj hinj) (by rw [HH.out]; omega) (by rw [HH.out]; exact hjl)
        have hU2 := up_step (by rw [HH.out]; exact Nat.le_refl _) hjl (by omega) HI.out hU' hs
        have hR2 := hR.trans (Rel.swap (n := ss.length) (ss := ss') (i := i) (j := j) (by rw [HH.out]; exact Nat.le_refl _) (by omega) hjl)
        clear hs hU' hI hI1 hR
        go_wp2_with fail
        refine S.out.mono ?_
        rintro e w2 ⟨rfl, hI2⟩
        clear S
        go_wp2
        go_roundw
        case rel => exact ⟨i, swapL ss' i j, rfl, by omega, hI2, hR2, hU2⟩
        case measure => simp [intOf]; omega
      · have hd : decide (f (at0 ss' j) < f (at0 ss' i)) = false := decide_eq_false hs
        have hH := up_stop hU' (by rw [HI.out]; exact hs)
        clear hs hU'
        go_wp2
        go_end0
        exact ⟨rfl, ss', hI1, hR, hH⟩

theorem hidd {p : Prop} (h : p) : Hid p := h
end
end Go.Proofs.Ybulkaoou
