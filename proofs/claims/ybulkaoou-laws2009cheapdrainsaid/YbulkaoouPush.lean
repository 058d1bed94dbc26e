import Derived.Test.YbulkaoouLib
namespace Go.Proofs.Ybulkaoou
open Go.ChangeShapes Go.WideShapes Go.ChangeAt Go.RowKit
set_option linter.unusedVariables false

section
variable {w0 : World} {B D kd k : Nat} {ob : Nat → Nat} {f : Nat → Int} {v : Value}

theorem down_leaf (D i n : Nat) (w : World) (hi : n ≤ 2 * i + 1) (hb : i ≤ 4096) (hn : n ≤ 4096) :
    Calls Yba.prog 10 #[.iface 42 (.pointer (some ⟨D, 0, none⟩)), .int .i64 i, .int .i64 n] w fun e w' => e = .returned (.bool false) ∧ w' = w := by
  go_enter Yba.func10, Yba.ntmps10
  go_wp2
  go_loop [7] (fun t => t = .int .i64 i) (fun t => 0)
  case atStart => rfl
  case round =>
    subst hrel
    go_wp2
    go_ret
    exact ⟨rfl, rfl⟩

theorem fix_any (ss : List Nat) (w : World) (j0 : Nat) (hk : kd ≤ 1) (hm : ss.length ≤ 1024) (hj : ss.length = j0 + 1) (h : Inv w0 w B D kd ob k f v ss) (hinj : ∀ i j, i < ss.length → j < ss.length → at0 ss i = at0 ss j → i = j) (hU : UpOk f ss ss.length j0) :
    Calls Yba.prog 9 #[.iface 42 (.pointer (some ⟨D, 0, none⟩)), .int .i64 j0] w fun e w' => e = .returned (.tuple #[]) ∧ ∃ ss', Inv w0 w' B D kd ob k f v ss' ∧ Rel ss.length ss ss' ∧ HeapOk f ss' ss.length := by
  have hml := m_len
  have L := hidd h.callLen
  have U := hidd (up_any ss w j0 hk hm (by omega) h hinj hU)
  have HD := hidd (down_leaf D j0 ss.length w (by omega) (by omega) (by omega))
  have HM := hidd hm
  clear h hinj hU hm hj
  go_enter Yba.func9, Yba.ntmps9
  go_wp2_with fail
  refine L.out.mono ?_
  rintro e w1 ⟨rfl, rfl⟩
  clear L
  go_wp2_with fail
  refine HD.out.mono ?_
  rintro e w2 ⟨rfl, rfl⟩
  clear HD
  go_wp2_with fail
  refine U.out.mono ?_
  rintro e w3 ⟨rfl, hP⟩
  have HP := hidd hP
  clear U hP
  go_wp2
  go_end0
  exact ⟨rfl, HP.out⟩

theorem inj_snoc {ss : List Nat} {s : Nat} (hinj : ∀ i j, i < ss.length → j < ss.length → at0 ss i = at0 ss j → i = j) (hnew : ∀ i, i < ss.length → at0 ss i ≠ s) :
    ∀ i j, i < (ss ++ [s]).length → j < (ss ++ [s]).length → at0 (ss ++ [s]) i = at0 (ss ++ [s]) j → i = j := by
  have hl : ∀ i, i < ss.length → at0 (ss ++ [s]) i = at0 ss i := fun i hi => by unfold at0; simp only [List.getD_eq_getElem?_getD]; rw [List.getElem?_append_left hi]
  have hs : at0 (ss ++ [s]) ss.length = s := by unfold at0; simp
  intro i j hi hj e
  rw [List.length_append, List.length_cons, List.length_nil] at hi hj
  by_cases h1 : i < ss.length
  · by_cases h2 : j < ss.length
    · rw [hl i h1, hl j h2] at e; exact hinj i j h1 h2 e
    · obtain rfl : j = ss.length := by omega
      rw [hl i h1, hs] at e; exact absurd e (hnew i h1)
  · obtain rfl : i = ss.length := by omega
    by_cases h2 : j < ss.length
    · rw [hl j h2, hs] at e; exact absurd e.symm (hnew j h2)
    · omega

theorem Inv.grownBox {w w2 : World} {ss : List Nat} {o : Obj} (h : Inv w0 w B D kd ob k f v ss) (hg : (w.alloc o).grownBy w2 v.ownBlock) : w2.heap[D]? = some (.cells #[.int .u8 kd, v] 44 (0, 0)) := by
  have hlt := lt_of_block h.box
  rw [hg.block D (by simp; omega) (fun e => ?_), Below.heap_alloc _ _ _ hlt]
  · exact h.box
  · rcases h.own.2 with ⟨hv, _⟩ | ⟨g, cap, cur, hv, hBg, hh, _⟩
    · rw [hv] at e; simp [Value.ownBlock] at e
    · rw [hv] at e
      simp only [Value.ownBlock, Option.some.injEq] at e
      have := h.box; rw [e, hh] at this; simp at this

/-- Behind the append and the store of the new slice into the box. -/
theorem Inv.appended {w w2 : World} {ss : List Nat} {s : Nat} {v' : Value} {o : Obj} (h : Inv w0 w B D kd ob k f v ss) (hs : s < k) (hown : w2.ownsRow B 41 2 v' (ss.length + 1) (entCells ob f ss ++ [.pointer (some ⟨ob s, 0, none⟩), .int .u64 (f s)])) (hg : (w.alloc o).grownBy w2 v.ownBlock) (hB : B ≤ w.heap.size) :
    Inv w0 (w2.setCell ⟨D, 1, none⟩ v') B D kd ob k f v' (ss ++ [s]) := by
  have hrow : ∀ x, v.ownBlock = some x → B ≤ x ∧ x ≠ D ∧ ∀ t, t < k → x ≠ ob t := by
    intro x hx
    rcases h.own.2 with ⟨hv, _⟩ | ⟨g, cap, cur, hv, hBg, hh, _⟩
    · rw [hv] at hx; simp [Value.ownBlock] at hx
    · rw [hv] at hx
      simp only [Value.ownBlock, Option.some.injEq] at hx
      subst hx
      refine ⟨hBg, fun e => ?_, fun t ht e => ?_⟩
      · have := h.box; rw [← e, hh] at this; simp at this
      · obtain ⟨_, c, hc, _⟩ := h.ords t ht; rw [← e, hh] at hc; simp at hc
  have hbl : ∀ x obj, w.heap[x]? = some obj → some x ≠ v.ownBlock → w2.heap[x]? = some obj := fun x obj hx hne => by
    have hlt := lt_of_block hx
    rw [hg.block x (by simp; omega) hne, Below.heap_alloc _ _ _ hlt]; exact hx
  have hbox2 : w2.heap[D]? = some (.cells #[.int .u8 kd, v] 44 (0, 0)) := hbl D _ h.box (fun e => (hrow D e.symm).2.1 rfl)
  have hbel : Below B w0 w2 := (h.below.alloc hB o).grown hg (by simp; omega) (fun x hx => (hrow x hx).1)
  have hne' : v'.ownBlock ≠ some D := by
    rcases hown.2 with ⟨hv, _⟩ | ⟨g, cap, cur, hv, hBg, hh, _⟩
    · rw [hv]; simp [Value.ownBlock]
    · rw [hv]; simp only [Value.ownBlock, ne_eq, Option.some.injEq]
      intro e; rw [e, hbox2] at hh; simp at hh
  refine ⟨hbel.setCell h.bD _, h.bD, ?_, ?_, fun t ht => ?_, h.obInj, fun j hj => ?_, fun S c4 hS => ?_⟩
  · rw [heap_setCell_same w2 D 1 _ 44 v' hbox2]; rfl
  · rw [List.length_append, ent_append]
    exact ownsRow_setCell_other hown hne' v'
  · obtain ⟨hBt, c, hc, r⟩ := h.ords t ht
    refine ⟨hBt, c, ?_, r⟩
    rw [heap_setCell_other _ ⟨D, 1, none⟩ (ob t) _ (fun e => h.Dob ht e.symm)]
    exact hbl _ _ hc (fun e => (hrow _ e.symm).2.2 t ht rfl)
  · rw [List.length_append] at hj
    simp only [List.length_cons, List.length_nil] at hj
    unfold at0
    rw [List.getD_eq_getElem?_getD]
    by_cases e : j < ss.length
    · rw [List.getElem?_append_left e]
      have := h.lt j e
      unfold at0 at this
      simpa using this
    · obtain rfl : j = ss.length := by omega
      simpa using hs
  · have h4 := h.side S c4 hS
    rw [heap_setCell_other _ ⟨D, 1, none⟩ S _ (fun e => by rw [show S = D from e, h.box] at h4; simp at h4)]
    refine hbl S _ h4 (fun e => ?_)
    rcases h.own.2 with ⟨hv, _⟩ | ⟨g, cap, cur, hv, hBg, hh, _⟩
    · rw [hv] at e; simp [Value.ownBlock] at e
    · rw [hv] at e
      simp only [Value.ownBlock, Option.some.injEq] at e
      rw [e, hh] at h4; simp at h4

theorem Yba.info41p : (Yba.prog.info? 41).map (fun i => (i.zero, i.size, i.bytes)) = some (some (.agg #[.pointer none, .int .u64 0]), 2, 16) := by kernel_rfl

set_option maxHeartbeats 1000000 in
theorem push_any (ss : List Nat) (w : World) (s : Nat) (hk : kd ≤ 1) (hm : ss.length ≤ 1023) (hs : s < k) (hB : B ≤ w.heap.size) (h : Inv w0 w B D kd ob k f v ss) (hinj : ∀ i j, i < ss.length → j < ss.length → at0 ss i = at0 ss j → i = j)
    (hnew : ∀ i, i < ss.length → at0 ss i ≠ s) (hH : HeapOk f ss ss.length) :
    Calls Yba.prog 6 #[.pointer (some ⟨D, 0, none⟩), .pointer (some ⟨ob s, 0, none⟩), .int .u64 (f s)] w fun e w' => e = .returned (.tuple #[]) ∧
      ∃ v' ss', Inv w0 w' B D kd ob k f v' ss' ∧ Rel (ss.length + 1) (ss ++ [s]) ss' ∧ HeapOk f ss' (ss.length + 1) := by
  obtain ⟨i0, hi, hz0, hz1, hz2⟩ := info_parts Yba.info41p
  have hv : ∃ a c, v = .slice a ss.length c := by
    rcases h.own.2 with ⟨hv, h0⟩ | ⟨g, cap, cur, hv, _⟩
    · exact ⟨none, 0, by rw [hv, h0]⟩
    · exact ⟨_, cap, hv⟩
  obtain ⟨a, c, hv⟩ := hv
  subst hv
  have d0 := h.kind
  have d1 := h.ent
  have df := h.entF
  obtain ⟨u, e1⟩ := h.exp hk hs
  have e2 := h.expF hs (18 + kd)
  have hDo := h.Dob hs
  have H := hidd h
  clear h
  go_enter Yba.func6, Yba.ntmps6
  go_wp2
  go_region
  have H1 : Inv w0 (w.setCell ⟨ob s, 18 + kd, none⟩ (.int .i32 (ss.length : Nat))).drew B D kd ob k f (.slice a ss.length c) ss := (H.out.setExp hs _).drewN 1
  have hB1 : B ≤ (w.setCell ⟨ob s, 18 + kd, none⟩ (.int .i32 (ss.length : Nat))).drew.heap.size := by simpa using hB
  clear d0 d1 df e1 e2 H
  generalize (w.setCell ⟨ob s, 18 + kd, none⟩ (.int .i32 (ss.length : Nat))).drew = W1 at *
  have d1 := H1.ent
  have hltD : D < W1.heap.size := lt_of_block H1.box
  have HH1 := hidd H1
  clear H1
  go_wp2_with (at_builtin; refine wpList_append_own _ rfl _ _ 25 rfl B 41 i0 (.agg #[.pointer none, .int .u64 0]) 2 16 Yba.underlying25 hi hz0 hz1 hz2 rfl (by decide) _ ss.length (entCells ob f ss) rfl (HH1.out.own.alloc _) ⟨W1.heap.size, 0, none⟩ 1 1 [.pointer (some ⟨ob s, 0, none⟩), .int .u64 (f s)] rfl rfl ?c1 ?c2 ?c3 ?c4 ?c5 ?_)
  case c1 => exact cell_two_new _ _ _ _
  case c2 => intro u hu; simp at hu; rcases hu with rfl | rfl <;> rfl
  case c3 => unfold maxLen; omega
  case c4 => omega
  case c5 => simp; omega
  intro v' w2 hown hgrow _
  have hA := HH1.out.appended hs hown hgrow hB1
  have hbx := HH1.out.grownBox hgrow
  have q1 : w2.cell? ⟨D, 1, none⟩ = some (.slice a ss.length c) := by simp [World.cell?, hbx]
  have q2 : w2.frozen? ⟨D, 1, none⟩ = false := by simp [World.frozen?, hbx]
  obtain ⟨g', c', hv'⟩ : ∃ g' c', v' = .slice (some ⟨g', 0, none⟩) (ss.length + 1) c' := by
    rcases hown.2 with ⟨_, h0⟩ | ⟨g, cap, cur, hv, _⟩
    · omega
    · exact ⟨g, cap, hv⟩
  subst hv'
  have F := hidd (fix_any (ss ++ [s]) _ ss.length hk (by simp; omega) (by simp) hA (inj_snoc hinj hnew) (by simpa using up_start rfl hH))
  clear hown hgrow hA hbx HH1 hi hz0 hz1 hz2 hinj hnew hH
  go_wp2_with fail
  refine F.out.mono ?_
  rintro e w3 ⟨rfl, hP⟩
  have HP := hidd hP
  clear F hP
  go_wp2
  go_end0
  obtain ⟨ss', hI, hR, hHp⟩ := HP.out
  rw [List.length_append] at hR hHp
  exact ⟨rfl, _, ss', hI, hR, hHp⟩
end
end Go.Proofs.Ybulkaoou
