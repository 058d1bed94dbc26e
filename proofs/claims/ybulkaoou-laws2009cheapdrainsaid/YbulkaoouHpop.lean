import Derived.Test.YbulkaoouDown
import Derived.Test.YbulkaoouPopFn
import Derived.WalkSmall
namespace Go.Proofs.Ybulkaoou
open Go.ChangeShapes Go.WideShapes Go.ChangeAt Go.RowKit
set_option linter.unusedVariables false

section
variable {w0 : World} {B D kd k : Nat} {ob : Nat → Nat} {f : Nat → Int} {v : Value}

theorem take_last {ss : List Nat} {n : Nat} (h : ss.length = n + 1) : ss = ss.take n ++ [at0 ss n] := by
  apply List.ext_getElem?
  intro i
  by_cases h1 : i < n
  · rw [List.getElem?_append_left (by simp; omega)]; simp [h1]
  · by_cases h2 : i = n
    · subst h2
      rw [List.getElem?_append_right (by simp <;> omega)]
      simp [at0, h]
    · rw [List.getElem?_eq_none (by omega), List.getElem?_eq_none (by simp; omega)]

theorem at0_take {ss : List Nat} {n i : Nat} (h : i < n) : at0 (ss.take n) i = at0 ss i := by unfold at0; simp [h]

/-- Behind (*expiries).Pop: the last entry is gone. -/
theorem Inv.popped {w : World} {ss : List Nat} {n g cap q : Nat} (h : Inv w0 w B D kd ob k f (.slice (some ⟨g, 0, none⟩) ss.length cap) ss) (hn : ss.length = n + 1) :
    Inv w0 (((((w.setCell ⟨g, n * 2, none⟩ (.pointer none)).setCell ⟨g, n * 2 + 1, none⟩ (.int .u64 0)).setCell ⟨D, 1, none⟩ (.slice (some ⟨g, 0, none⟩) n cap)).setCell ⟨ob (at0 ss n), 18 + kd, none⟩ (.int .i32 (-1))).drewN q) B D kd ob k f (.slice (some ⟨g, 0, none⟩) n cap) (ss.take n) := by
  obtain ⟨g', cap', hv, hBg, _, _, hgD, hgo⟩ := h.row (by omega)
  simp only [Value.slice.injEq, Option.some.injEq, Addr.mk.injEq, and_true, true_and] at hv
  obtain ⟨rfl, rfl⟩ := hv
  have hl : (ss.take n).length = n := by simp; omega
  have hown := h.own
  have o0 : w.ownsRow B 41 2 (.slice (some ⟨g, 0, none⟩) (n + 1) cap) (n + 1) (entCells ob f (ss.take n) ++ [.pointer (some ⟨ob (at0 ss n), 0, none⟩), .int .u64 (f (at0 ss n))]) := by
    rw [← ent_append, ← take_last hn, ← hn]; exact hown
  have hx : (entCells ob f (ss.take n)).length = n * 2 := by rw [ent_length, hl]
  have o1 := ownsRow_pop hx o0
  have o2 := (o1.stored (n * 2) (.pointer none)).1
  rw [List.set_eq_of_length_le (by omega)] at o2
  have o3 := (o2.stored (n * 2 + 1) (.int .u64 0)).1
  rw [List.set_eq_of_length_le (by omega)] at o3
  have hs : at0 ss n < k := h.lt n (by omega)
  have hb2 : ((w.setCell ⟨g, n * 2, none⟩ (.pointer none)).setCell ⟨g, n * 2 + 1, none⟩ (.int .u64 0)).heap[D]? = some (.cells #[.int .u8 kd, .slice (some ⟨g, 0, none⟩) ss.length cap] 44 (0, 0)) := by
    rw [heap_setCell_other _ ⟨g, n * 2 + 1, none⟩ D _ (fun e => hgD e.symm), heap_setCell_other _ ⟨g, n * 2, none⟩ D _ (fun e => hgD e.symm)]; exact h.box
  have hI : Inv w0 (((w.setCell ⟨g, n * 2, none⟩ (.pointer none)).setCell ⟨g, n * 2 + 1, none⟩ (.int .u64 0)).setCell ⟨D, 1, none⟩ (.slice (some ⟨g, 0, none⟩) n cap)) B D kd ob k f (.slice (some ⟨g, 0, none⟩) n cap) (ss.take n) := by
    refine ⟨((h.below.setCell (p := ⟨g, n * 2, none⟩) hBg _).setCell (p := ⟨g, n * 2 + 1, none⟩) hBg _).setCell (p := ⟨D, 1, none⟩) h.bD _, h.bD, ?_, ?_, fun t ht => ?_, h.obInj, fun j hj => ?_, fun S c4 hS => ?_⟩
    · rw [heap_setCell_same _ D 1 _ 44 _ hb2]; rfl
    · rw [hl]
      exact ownsRow_setCell_other o3 (by simp only [Value.ownBlock, ne_eq, Option.some.injEq]; exact hgD) _
    · obtain ⟨hBt, c', hc', r⟩ := h.ords t ht
      refine ⟨hBt, c', ?_, r⟩
      rw [heap_setCell_other _ ⟨D, 1, none⟩ (ob t) _ (fun e => h.Dob ht e.symm), heap_setCell_other _ ⟨g, n * 2 + 1, none⟩ (ob t) _ (fun e => hgo t ht e.symm), heap_setCell_other _ ⟨g, n * 2, none⟩ (ob t) _ (fun e => hgo t ht e.symm)]; exact hc'
    · rw [hl] at hj
      rw [at0_take hj]; exact h.lt j (by omega)
    · have h4 := h.side S c4 hS
      have hne : S ≠ g := fun e => by
        rcases h.own.2 with ⟨hv, _⟩ | ⟨g', cap', cur, hv, _, hh, _⟩
        · simp at hv
        · simp only [Value.slice.injEq, Option.some.injEq, Addr.mk.injEq, and_true, true_and] at hv
          obtain ⟨rfl, rfl⟩ := hv
          rw [e, hh] at h4; simp at h4
      rw [heap_setCell_other _ ⟨D, 1, none⟩ S _ (fun e => by rw [show S = D from e, h.box] at h4; simp at h4), heap_setCell_other _ ⟨g, n * 2 + 1, none⟩ S _ hne, heap_setCell_other _ ⟨g, n * 2, none⟩ S _ hne]; exact h4
  exact (hI.setExp hs _).drewN q

/-- (*expiries).Pop on the heap in memory. -/
theorem Inv.callPop {w : World} {ss : List Nat} {n : Nat} (h : Inv w0 w B D kd ob k f v ss) (hk : kd ≤ 1) (hm : ss.length ≤ 1024) (hn : ss.length = n + 1) :
    Calls Yba.prog 5 #[.pointer (some ⟨D, 0, none⟩)] w fun e w' => e = .returned (.iface 26 (.pointer (some ⟨ob (at0 ss n), 0, none⟩))) ∧
      w'.cell? ⟨ob (at0 ss n), 18 + kd, none⟩ = some (.int .i32 (-1)) ∧ ∃ v', Inv w0 w' B D kd ob k f v' (ss.take n) := by
  obtain ⟨g, cap, hv, hBg, hcap, hcm, hgD, hgo⟩ := h.row (by omega)
  subst hv
  have hs : at0 ss n < k := h.lt n (by omega)
  obtain ⟨u, eu⟩ := h.exp hk hs
  have p1 : w.cell? ⟨g, n * 2, none⟩ = some (.pointer (some ⟨ob (at0 ss n), 0, none⟩)) := by rw [h.own.cellAt _ (by omega)]; exact ent_ptr ob f ss n (by omega)
  have p2 : w.cell? ⟨g, n * 2 + 1, none⟩ = some (.int .u64 (f (at0 ss n))) := by rw [h.own.cellAt _ (by omega)]; exact ent_lim ob f ss n (by omega)
  have d1 := h.ent
  rw [hn] at d1
  unfold maxLen at hcm
  refine (popfn D g (ob (at0 ss n)) n cap kd _ _ w hk (by omega) (by omega) hcm (fun e => hgD e.symm) (h.Dob hs) (hgo _ hs) h.kind d1 h.entF p1 p2 (h.own.frozenAt _) (h.own.frozenAt _) eu (h.expF hs _)).mono ?_
  rintro e w' ⟨rfl, q, rfl⟩
  refine ⟨rfl, ?_, _, h.popped hn⟩
  have hb := h.popped (q := q) hn
  rw [World.cell?_drewN]
  refine World.cell?_setCell_same _ _ _ (u := u) ?_
  rw [World.cell?_setCell_other _ _ _ _ (by simp <;> omega), World.cell?_setCell_other _ _ _ _ (by simp; exact fun e => absurd e (hgo _ hs)), World.cell?_setCell_other _ _ _ _ (by simp; exact fun e => absurd e (hgo _ hs))]
  exact eu

set_option maxHeartbeats 1000000 in
theorem hpop_any (ss : List Nat) (w : World) (n : Nat) (hk : kd ≤ 1) (hm : ss.length ≤ 1024) (hn : ss.length = n + 1) (h : Inv w0 w B D kd ob k f v ss) (hinj : ∀ i j, i < ss.length → j < ss.length → at0 ss i = at0 ss j → i = j) (hH : HeapOk f ss ss.length) :
    Calls Yba.prog 8 #[.iface 42 (.pointer (some ⟨D, 0, none⟩))] w fun e w' => e = .returned (.iface 26 (.pointer (some ⟨ob (at0 ss 0), 0, none⟩))) ∧ w'.cell? ⟨ob (at0 ss 0), 18 + kd, none⟩ = some (.int .i32 (-1)) ∧
      ∃ v' ss', Inv w0 w' B D kd ob k f v' ss' ∧ ss'.length = n ∧ HeapOk f ss' n ∧ (∀ i j, i < ss'.length → j < ss'.length → at0 ss' i = at0 ss' j → i = j) ∧
        ∀ P : Nat → Prop, (∀ i, 0 < i → i < ss.length → P (at0 ss i)) → ∀ i, i < n → P (at0 ss' i) := by
  have g1 := m_len
  have g2 := m_swap
  have g3 := m_pop
  have L := hidd h.callLen
  have hA := fun x => at0_swapL (ss := ss) (i := 0) (j := n) (by omega) (by omega) x
  have S : Hid (Calls Yba.prog 35 #[.pointer (some ⟨D, 0, none⟩), .int .i64 0, .int .i64 n] w fun e w' => e = .returned (.tuple #[]) ∧ Inv w0 w' B D kd ob k f v (swapL ss 0 n)) := by
    have := h.callSwap (i := 0) (j := n) hk hm hinj (by omega) (by omega)
    simpa [Hid] using this
  have hDo : DownOk f (swapL ss 0 n) n 0 := by
    have := down_start (f := f) (ss := ss) (m := ss.length) (by omega) rfl hH
    rw [hn] at this; exact this
  have hR0 : Rel (n + 1) ss (swapL ss 0 n) := Rel.swap (by omega) (by omega) (by omega)
  have hinj1 := hR0.inj hinj
  have HD := hidd (fun w1 hI => down_any (w0 := w0) (B := B) (D := D) (kd := kd) (ob := ob) (k := k) (f := f) (v := v) (swapL ss 0 n) w1 n hk (by rw [length_swapL]; exact hm) (by rw [length_swapL]; omega) hI hinj1 hDo)
  have hsub : ((ss.length : Nat) : Int) - 1 = (n : Int) := by omega
  have HN := hidd hn
  have HA := hidd hA
  have HJ := hidd hinj1
  have HM := hidd hm
  clear h hinj hH hDo hR0 hn hA hinj1
  go_enter Yba.func8, Yba.ntmps8
  go_wp2_with fail
  refine L.out.mono ?_
  rintro e w1 ⟨rfl, rfl⟩
  clear L
  go_wp2_with fail
  refine S.out.mono ?_
  rintro e w2 ⟨rfl, hI2⟩
  clear S
  have HDD := hidd (HD.out _ hI2)
  clear HD hI2
  go_wp2_with fail
  refine HDD.out.mono ?_
  rintro e w3 ⟨b, rfl, ss2, hI3, hR3, hH3⟩
  clear HDD
  have hlen2 : ss2.length = n + 1 := by rw [hR3.len, length_swapL]; exact HN.out
  have hlast : at0 ss2 n = at0 ss 0 := (hR3.tail n (Nat.le_refl _)).trans (by rw [HA.out, if_pos rfl])
  have hPP := hI3.callPop hk (by rw [hlen2, ← HN.out]; exact HM.out) hlen2
  rw [hlast] at hPP
  have PP := hidd hPP
  have HR3 := hidd hR3
  have HH3 := hidd hH3
  have HL2 := hidd hlen2
  clear hPP hR3 hH3 hlen2 hlast hI3
  go_wp2_with fail
  refine PP.out.mono ?_
  rintro e w4 ⟨rfl, hc, v', hI4⟩
  clear PP
  have HC := hidd hc
  have HI4 := hidd hI4
  clear hc hI4
  go_wp2
  go_ret
  refine ⟨rfl, HC.out, v', ss2.take n, HI4.out, by have := HL2.out; simp; omega, fun j h0 hj => ?_, fun i j hi hj e => ?_, fun P hP i hi => ?_⟩
  · rw [at0_take (by omega), at0_take hj]; exact HH3.out j h0 hj
  · have hl2 := HL2.out
    rw [List.length_take] at hi hj
    rw [at0_take (by omega), at0_take (by omega)] at e
    exact HR3.out.inj HJ.out i j (by omega) (by omega) e
  · rw [at0_take hi]
    refine HR3.out.all P (fun j hj => ?_) i hi
    have hn := HN.out
    rw [HA.out, if_neg (by omega)]
    split
    · exact hP n (by omega) (by omega)
    · exact hP j (by omega) (by omega)
end
end Go.Proofs.Ybulkaoou
