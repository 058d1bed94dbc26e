import Derived.Test.YbulkaoouHeap
import Derived.Test.YbulkaoouMeth
namespace Go.Proofs.Ybulkaoou
open Go.ChangeShapes Go.WideShapes Go.ChangeAt Go.RowKit
set_option linter.unusedVariables false

/-- The cells of the entries ss: order s lies at the head of block ob s, its limit is f s. -/
def entCells (ob : Nat → Nat) (f : Nat → Int) : List Nat → List Value
  | [] => []
  | s :: r => .pointer (some ⟨ob s, 0, none⟩) :: .int .u64 (f s) :: entCells ob f r

theorem ent_length (ob : Nat → Nat) (f : Nat → Int) (ss : List Nat) : (entCells ob f ss).length = ss.length * 2 := by
  induction ss with
  | nil => rfl
  | cons s r ih => simp only [entCells, List.length_cons, ih]; omega
theorem ent_append (ob : Nat → Nat) (f : Nat → Int) (ss : List Nat) (s : Nat) : entCells ob f (ss ++ [s]) = entCells ob f ss ++ [.pointer (some ⟨ob s, 0, none⟩), .int .u64 (f s)] := by
  induction ss with
  | nil => rfl
  | cons x r ih => simp only [List.cons_append, entCells, ih]
theorem ent_ptr (ob : Nat → Nat) (f : Nat → Int) : ∀ (ss : List Nat) (i : Nat), i < ss.length → (entCells ob f ss)[i * 2]? = some (.pointer (some ⟨ob (at0 ss i), 0, none⟩))
  | [], i, h => by simp at h
  | s :: r, 0, _ => rfl
  | s :: r, i + 1, h => by
    have := ent_ptr ob f r i (by simpa using h)
    rw [show (i + 1) * 2 = i * 2 + 1 + 1 by omega]
    simpa [entCells, at0] using this
theorem ent_lim (ob : Nat → Nat) (f : Nat → Int) : ∀ (ss : List Nat) (i : Nat), i < ss.length → (entCells ob f ss)[i * 2 + 1]? = some (.int .u64 (f (at0 ss i)))
  | [], i, h => by simp at h
  | s :: r, 0, _ => rfl
  | s :: r, i + 1, h => by
    have := ent_lim ob f r i (by simpa using h)
    rw [show (i + 1) * 2 + 1 = i * 2 + 1 + 1 + 1 by omega]
    simpa [entCells, at0] using this
theorem ent_set (ob : Nat → Nat) (f : Nat → Int) (s : Nat) : ∀ (ss : List Nat) (i : Nat), ((entCells ob f ss).set (i * 2) (.pointer (some ⟨ob s, 0, none⟩))).set (i * 2 + 1) (.int .u64 (f s)) = entCells ob f (ss.set i s)
  | [], i => by simp [entCells]
  | x :: r, 0 => rfl
  | x :: r, i + 1 => by
    have := ent_set ob f s r i
    rw [show (i + 1) * 2 = i * 2 + 1 + 1 by omega]
    simp only [entCells, List.set_cons_succ, List.set_cons_succ]
    rw [this]

/-- THE HEAP IN MEMORY: the box at D, the entries ss in the row that v leads to, the orders 0 .. k-1 each in a block of its own. -/
structure Inv (w0 w : World) (B D kd : Nat) (ob : Nat → Nat) (k : Nat) (f : Nat → Int) (v : Value) (ss : List Nat) : Prop where
  below : Below B w0 w
  bD : B ≤ D
  box : w.heap[D]? = some (.cells #[.int .u8 kd, v] 44 (0, 0))
  own : w.ownsRow B 41 2 v ss.length (entCells ob f ss)
  ords : ∀ s, s < k → B ≤ ob s ∧ ∃ c : Array Value, w.heap[ob s]? = some (.cells c 39 (0, 0)) ∧ c.size = 20 ∧ c[12]? = some (.int .u64 s)
  obInj : ∀ s t, s < k → t < k → ob s = ob t → s = t
  lt : ∀ i, i < ss.length → at0 ss i < k
  side : ∀ (S : Nat) (c : Array Value), w0.heap[S]? = some (.cells c 4 (0, 0)) → w.heap[S]? = some (.cells c 4 (0, 0))

section
variable {w0 w : World} {B D kd k : Nat} {ob : Nat → Nat} {f : Nat → Int} {v : Value} {ss : List Nat}

theorem Inv.kind (h : Inv w0 w B D kd ob k f v ss) : w.cell? ⟨D, 0, none⟩ = some (.int .u8 kd) := by simp [World.cell?, h.box]
theorem Inv.ent (h : Inv w0 w B D kd ob k f v ss) : w.cell? ⟨D, 1, none⟩ = some v := by simp [World.cell?, h.box]
theorem Inv.entF (h : Inv w0 w B D kd ob k f v ss) : w.frozen? ⟨D, 1, none⟩ = false := by simp [World.frozen?, h.box]
theorem Inv.row (h : Inv w0 w B D kd ob k f v ss) (hm : 0 < ss.length) : ∃ g cap, v = .slice (some ⟨g, 0, none⟩) ss.length cap ∧ B ≤ g ∧ ss.length ≤ cap ∧ cap ≤ maxLen ∧ g ≠ D ∧ (∀ s, s < k → g ≠ ob s) := by
  rcases h.own.2 with ⟨_, h0⟩ | ⟨g, cap, cur, hv, hg, hh, h1, h2, _⟩
  · omega
  · refine ⟨g, cap, hv, hg, h1, h2, fun e => ?_, fun s hs e => ?_⟩
    · have := h.box; rw [← e, hh] at this; simp at this
    · obtain ⟨_, c, hc, _⟩ := h.ords s hs; rw [← e, hh] at hc; simp at hc
theorem Inv.Dob (h : Inv w0 w B D kd ob k f v ss) {s : Nat} (hs : s < k) : D ≠ ob s := fun e => by
  obtain ⟨_, c, hc, _⟩ := h.ords s hs; rw [← e, h.box] at hc; simp at hc
theorem Inv.seq (h : Inv w0 w B D kd ob k f v ss) {s : Nat} (hs : s < k) : w.cell? ⟨ob s, 12, none⟩ = some (.int .u64 s) := by
  obtain ⟨_, c, hc, _, h12⟩ := h.ords s hs; simpa [World.cell?, hc] using h12
theorem Inv.exp (h : Inv w0 w B D kd ob k f v ss) (hk : kd ≤ 1) {s : Nat} (hs : s < k) : ∃ u, w.cell? ⟨ob s, 18 + kd, none⟩ = some u := by
  obtain ⟨_, c, hc, hsz, _⟩ := h.ords s hs
  exact ⟨c[18 + kd]'(by omega), by simp [World.cell?, hc]⟩
theorem Inv.expF (h : Inv w0 w B D kd ob k f v ss) {s : Nat} (hs : s < k) (o : Nat) : w.frozen? ⟨ob s, o, none⟩ = false := by
  obtain ⟨_, c, hc, _⟩ := h.ords s hs; simp [World.frozen?, hc]

theorem Inv.drewN (h : Inv w0 w B D kd ob k f v ss) (q : Nat) : Inv w0 (w.drewN q) B D kd ob k f v ss :=
  ⟨⟨h.below.os, h.below.tape, h.below.output, h.below.size, h.below.block⟩, h.bD, h.box, h.own, h.ords, h.obInj, h.lt, h.side⟩

/-- A store into an order's index. -/
theorem Inv.setExp (h : Inv w0 w B D kd ob k f v ss) {s : Nat} (hs : s < k) (u : Value) : Inv w0 (w.setCell ⟨ob s, 18 + kd, none⟩ u) B D kd ob k f v ss := by
  obtain ⟨hB, c, hc, hsz, h12⟩ := h.ords s hs
  refine ⟨h.below.setCell hB _, h.bD, ?_, ?_, fun t ht => ?_, h.obInj, h.lt, fun S c4 hS => ?_⟩
  · rw [heap_setCell_other w ⟨ob s, 18 + kd, none⟩ D u (fun e => h.Dob hs e)]; exact h.box
  · refine ownsRow_setCell_other h.own ?_ u
    rcases Nat.eq_zero_or_pos ss.length with h0 | h0
    · rcases h.own.2 with ⟨hv, _⟩ | ⟨g, cap, cur, hv, hg, hh, _⟩
      · rw [hv]; simp [Value.ownBlock]
      · rw [hv]; simp only [Value.ownBlock, ne_eq, Option.some.injEq]
        intro e; rw [e, hc] at hh; simp at hh
    · obtain ⟨g, cap, hv, _, _, _, _, hne⟩ := h.row h0
      rw [hv]; simp only [Value.ownBlock, ne_eq, Option.some.injEq]
      exact hne s hs
  · by_cases e : t = s
    · subst e
      refine ⟨hB, c.setIfInBounds (18 + kd) u, heap_setCell_same w (ob t) (18 + kd) c 39 u hc, by simpa using hsz, ?_⟩
      rw [Array.getElem?_setIfInBounds_ne (by omega)]; exact h12
    · obtain ⟨hBt, c', hc', r⟩ := h.ords t ht
      exact ⟨hBt, c', by rw [heap_setCell_other w ⟨ob s, 18 + kd, none⟩ (ob t) u (fun e' => e (h.obInj t s ht hs e'))]; exact hc', r⟩
  · have h4 := h.side S c4 hS
    rw [heap_setCell_other w ⟨ob s, 18 + kd, none⟩ S u (fun e => by rw [show S = ob s from e, hc] at h4; simp at h4)]; exact h4

/-- Entry i is laid anew. -/
theorem Inv.put {g cap : Nat} (h : Inv w0 w B D kd ob k f (.slice (some ⟨g, 0, none⟩) ss.length cap) ss) {i s : Nat} (hi : i < ss.length) (hs : s < k) :
    Inv w0 ((w.setCell ⟨g, i * 2, none⟩ (.pointer (some ⟨ob s, 0, none⟩))).setCell ⟨g, i * 2 + 1, none⟩ (.int .u64 (f s))) B D kd ob k f (.slice (some ⟨g, 0, none⟩) ss.length cap) (ss.set i s) := by
  obtain ⟨g', cap', hv, hBg, _, _, hgD, hgo⟩ := h.row (by omega)
  simp only [Value.slice.injEq, Option.some.injEq, Addr.mk.injEq, and_true, true_and] at hv
  obtain ⟨rfl, rfl⟩ := hv
  have o1 := (h.own.stored (i * 2) (.pointer (some ⟨ob s, 0, none⟩))).1
  have o2 := (o1.stored (i * 2 + 1) (.int .u64 (f s))).1
  rw [ent_set] at o2
  refine ⟨(h.below.setCell (p := ⟨g, i * 2, none⟩) hBg _).setCell (p := ⟨g, i * 2 + 1, none⟩) hBg _, h.bD, ?_, ?_, fun t ht => ?_, h.obInj, fun j hj => ?_, fun S c4 hS => ?_⟩
  · rw [heap_setCell_other _ ⟨g, i * 2 + 1, none⟩ D _ (fun e => hgD e.symm), heap_setCell_other _ ⟨g, i * 2, none⟩ D _ (fun e => hgD e.symm)]; exact h.box
  · rw [List.length_set]; exact o2
  · obtain ⟨hBt, c', hc', r⟩ := h.ords t ht
    refine ⟨hBt, c', ?_, r⟩
    rw [heap_setCell_other _ ⟨g, i * 2 + 1, none⟩ (ob t) _ (fun e => hgo t ht e.symm), heap_setCell_other _ ⟨g, i * 2, none⟩ (ob t) _ (fun e => hgo t ht e.symm)]; exact hc'
  · rw [List.length_set] at hj
    have hlt := h.lt j hj
    unfold at0 at hlt ⊢
    rw [List.getD_eq_getElem?_getD, List.getElem?_set]
    split
    · exact hs
    · simpa using hlt
  · have h4 := h.side S c4 hS
    have hne : S ≠ g := fun e => by
      rcases h.own.2 with ⟨hv, _⟩ | ⟨g', cap', cur, hv, _, hh, _⟩
      · simp at hv
      · simp only [Value.slice.injEq, Option.some.injEq, Addr.mk.injEq, and_true, true_and] at hv
        obtain ⟨rfl, rfl⟩ := hv
        rw [e, hh] at h4; simp at h4
    rw [heap_setCell_other _ ⟨g, i * 2 + 1, none⟩ S _ hne, heap_setCell_other _ ⟨g, i * 2, none⟩ S _ hne]; exact h4

/-! ### The methods, over the heap in memory. -/
theorem Inv.callLen (h : Inv w0 w B D kd ob k f v ss) :
    Calls Yba.prog 7 #[.pointer (some ⟨D, 0, none⟩)] w fun e w' => e = .returned (.int .i64 ss.length) ∧ w' = w := by
  have hv : ∃ a c, v = .slice a ss.length c := by
    rcases h.own.2 with ⟨hv, h0⟩ | ⟨g, cap, cur, hv, _⟩
    · exact ⟨none, 0, by rw [hv, h0]⟩
    · exact ⟨_, cap, hv⟩
  obtain ⟨a, c, hv⟩ := hv
  exact lenfn D ss.length c a w (by rw [← hv]; exact h.ent)

theorem Inv.callLess (h : Inv w0 w B D kd ob k f v ss) (hm : ss.length ≤ 1024) {i j : Nat} (hi : i < ss.length) (hj : j < ss.length) :
    Calls Yba.prog 34 #[.pointer (some ⟨D, 0, none⟩), .int .i64 i, .int .i64 j] w fun e w' => e = .returned (.bool (decide (f (at0 ss i) < f (at0 ss j)))) ∧ ∃ q, w' = w.drewN q := by
  obtain ⟨g, cap, hv, hBg, hcap, _, hgD, hgo⟩ := h.row (by omega)
  subst hv
  refine lessfn D g ss.length cap i j _ _ w (by omega) (by omega) hm h.ent ?_ ?_
  · rw [h.own.cellAt _ (by omega)]; exact ent_lim ob f ss i hi
  · rw [h.own.cellAt _ (by omega)]; exact ent_lim ob f ss j hj

theorem Inv.callSwap (h : Inv w0 w B D kd ob k f v ss) (hk : kd ≤ 1) (hm : ss.length ≤ 1024) (hinj : ∀ i j, i < ss.length → j < ss.length → at0 ss i = at0 ss j → i = j) {i j : Nat} (hi : i < ss.length) (hj : j < ss.length) :
    Calls Yba.prog 35 #[.pointer (some ⟨D, 0, none⟩), .int .i64 i, .int .i64 j] w fun e w' => e = .returned (.tuple #[]) ∧ Inv w0 w' B D kd ob k f v (swapL ss i j) := by
  obtain ⟨g, cap, hv, hBg, hcap, _, hgD, hgo⟩ := h.row (by omega)
  subst hv
  have si := h.lt i hi
  have sj := h.lt j hj
  obtain ⟨ui, eui⟩ := h.exp hk si
  obtain ⟨uj, euj⟩ := h.exp hk sj
  have p1 : w.cell? ⟨g, i * 2, none⟩ = some (.pointer (some ⟨ob (at0 ss i), 0, none⟩)) := by rw [h.own.cellAt _ (by omega)]; exact ent_ptr ob f ss i hi
  have p2 : w.cell? ⟨g, i * 2 + 1, none⟩ = some (.int .u64 (f (at0 ss i))) := by rw [h.own.cellAt _ (by omega)]; exact ent_lim ob f ss i hi
  have p3 : w.cell? ⟨g, j * 2, none⟩ = some (.pointer (some ⟨ob (at0 ss j), 0, none⟩)) := by rw [h.own.cellAt _ (by omega)]; exact ent_ptr ob f ss j hj
  have p4 : w.cell? ⟨g, j * 2 + 1, none⟩ = some (.int .u64 (f (at0 ss j))) := by rw [h.own.cellAt _ (by omega)]; exact ent_lim ob f ss j hj
  by_cases hij : i = j
  · subst hij
    refine (swap_eq D g ss.length cap i (ob (at0 ss i)) kd _ _ w hk (by omega) hm (fun e => hgD e.symm) (h.Dob si) (hgo _ si) h.kind h.ent p1 p2 (h.own.frozenAt _) (h.own.frozenAt _) eui (h.expF si _)).mono ?_
    rintro e w' ⟨rfl, q, rfl⟩
    have h1 := h.put hi si
    have h1' : Inv w0 ((w.setCell ⟨g, i * 2, none⟩ (.pointer (some ⟨ob (at0 ss i), 0, none⟩))).setCell ⟨g, i * 2 + 1, none⟩ (.int .u64 (f (at0 ss i)))) B D kd ob k f (.slice (some ⟨g, 0, none⟩) (ss.set i (at0 ss i)).length cap) (ss.set i (at0 ss i)) := by rw [List.length_set]; exact h1
    have h2 := h1'.put (i := i) (s := at0 ss i) (by rw [List.length_set]; exact hi) si
    rw [List.length_set] at h2
    exact ⟨rfl, ((h2.setExp si _).setExp si _).drewN q⟩
  · refine (swap_ne D g ss.length cap i j (ob (at0 ss i)) (ob (at0 ss j)) kd _ _ _ _ w hk (by omega) (by omega) hm hij (fun e => hgD e.symm) (h.Dob si) (h.Dob sj) (hgo _ si) (hgo _ sj)
      (fun e => hij (hinj i j hi hj (h.obInj _ _ si sj e))) h.kind h.ent p1 p2 p3 p4 (h.own.frozenAt _) (h.own.frozenAt _) (h.own.frozenAt _) (h.own.frozenAt _) eui euj (h.expF si _) (h.expF sj _)).mono ?_
    rintro e w' ⟨rfl, q, rfl⟩
    have h1 := h.put hi sj
    have h1' : Inv w0 ((w.setCell ⟨g, i * 2, none⟩ (.pointer (some ⟨ob (at0 ss j), 0, none⟩))).setCell ⟨g, i * 2 + 1, none⟩ (.int .u64 (f (at0 ss j)))) B D kd ob k f (.slice (some ⟨g, 0, none⟩) (ss.set i (at0 ss j)).length cap) (ss.set i (at0 ss j)) := by rw [List.length_set]; exact h1
    have h2 := h1'.put (i := j) (s := at0 ss i) (by rw [List.length_set]; exact hj) si
    rw [List.length_set] at h2
    exact ⟨rfl, ((h2.setExp sj _).setExp si _).drewN q⟩
end
end Go.Proofs.Ybulkaoou
