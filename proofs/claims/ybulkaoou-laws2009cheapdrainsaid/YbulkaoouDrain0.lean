import Derived.Test.YbulkaoouPush
namespace Go.Proofs.Ybulkaoou
open Go.ChangeShapes Go.WideShapes Go.ChangeAt Go.RowKit
set_option linter.unusedVariables false

/-- Order k lies at block o. -/
def upd (ob : Nat → Nat) (k o : Nat) : Nat → Nat := fun t => if t = k then o else ob t
theorem upd_same (ob : Nat → Nat) (k o : Nat) : upd ob k o k = o := by simp [upd]

theorem ent_congr {ob ob' : Nat → Nat} {f : Nat → Int} : ∀ {ss : List Nat}, (∀ s ∈ ss, ob s = ob' s) → entCells ob f ss = entCells ob' f ss
  | [], _ => rfl
  | s :: r, h => by
    simp only [entCells]
    rw [h s (by simp), ent_congr (fun t ht => h t (by simp [ht]))]

section
variable {w0 w : World} {B D kd k : Nat} {ob : Nat → Nat} {f : Nat → Int} {v : Value} {ss : List Nat}

theorem Inv.begin (w : World) (kd : Nat) (ob : Nat → Nat) (f : Nat → Int) : Inv w (w.alloc (.cells #[.int .u8 kd, .slice none 0 0] 44)) w.heap.size w.heap.size kd ob 0 f (.slice none 0 0) [] :=
  ⟨(Below.refl _ _).alloc (Nat.le_refl _) _, Nat.le_refl _, heap_alloc_new w _, World.ownsRow_nil _ _ _ _, fun s hs => by omega, fun s t hs => by omega, fun i hi => by simp at hi,
    fun S c hS => by rw [Below.heap_alloc _ _ _ (lt_of_block hS)]; exact hS⟩

theorem Inv.newOrder (h : Inv w0 w B D kd ob k f v ss) (hB : B ≤ w.heap.size) (X : Array Value) (hX : X.size = 20) (h12 : X[12]? = some (.int .u64 k)) :
    Inv w0 (w.alloc (.cells X 39)) B D kd (upd ob k w.heap.size) (k + 1) f v ss := by
  have hob : ∀ t, t < k → upd ob k w.heap.size t = ob t := fun t ht => by simp [upd, Nat.ne_of_lt ht]
  have hlt : ∀ t, t < k → ob t < w.heap.size := fun t ht => by obtain ⟨_, c, hc, _⟩ := h.ords t ht; exact lt_of_block hc
  refine ⟨h.below.alloc hB _, h.bD, ?_, ?_, fun t ht => ?_, fun s t hs ht e => ?_, fun i hi => Nat.lt_succ_of_lt (h.lt i hi), fun S c hS => ?_⟩
  · rw [Below.heap_alloc _ _ _ (lt_of_block h.box)]; exact h.box
  · rw [ent_congr (ob := upd ob k w.heap.size) (ob' := ob) (fun s hs => by
      obtain ⟨i, hi, e⟩ := List.mem_iff_getElem.1 hs
      have := h.lt i hi
      refine hob s ?_
      unfold at0 at this; simp [hi] at this; omega)]
    exact h.own.alloc _
  · by_cases e : t = k
    · subst e
      rw [upd_same]
      exact ⟨hB, X, heap_alloc_new w _, hX, h12⟩
    · rw [hob t (by omega)]
      obtain ⟨hBt, c, hc, r⟩ := h.ords t (by omega)
      exact ⟨hBt, c, by rw [Below.heap_alloc _ _ _ (lt_of_block hc)]; exact hc, r⟩
  · by_cases e1 : s = k
    · by_cases e2 : t = k
      · omega
      · rw [e1, upd_same, hob t (by omega)] at e
        have := hlt t (by omega); omega
    · by_cases e2 : t = k
      · rw [e2, upd_same, hob s (by omega)] at e
        have := hlt s (by omega); omega
      · rw [hob s (by omega), hob t (by omega)] at e
        exact h.obInj s t (by omega) (by omega) e
  · have h4 := h.side S c hS
    rw [Below.heap_alloc _ _ _ (lt_of_block h4)]; exact h4

theorem Inv.rebase (h : Inv w0 w B D kd ob k f v ss) : Inv w w B D kd ob k f v ss :=
  ⟨Below.refl _ _, h.bD, h.box, h.own, h.ords, h.obInj, h.lt, fun _ _ h => h⟩

theorem Inv.seenNe (h : Inv w0 w B D kd ob k f v ss) {S : Nat} {c : Array Value} (hS : w.heap[S]? = some (.cells c 4 (0, 0))) : S ≠ D ∧ (∀ t, t < k → S ≠ ob t) ∧ v.ownBlock ≠ some S := by
  refine ⟨fun e => by rw [e, h.box] at hS; simp at hS, fun t ht e => by obtain ⟨_, c', hc, _⟩ := h.ords t ht; rw [e, hc] at hS; simp at hS, fun e => ?_⟩
  rcases h.own.2 with ⟨hv, _⟩ | ⟨g, cap, cur, hv, hBg, hh, _⟩
  · rw [hv] at e; simp [Value.ownBlock] at e
  · rw [hv] at e
    simp only [Value.ownBlock, Option.some.injEq] at e
    rw [← e, hh] at hS; simp at hS

/-- A mark in the row of marks. -/
theorem Inv.setSeen (h : Inv w0 w B D kd ob k f v ss) {S : Nat} {c : Array Value} (hS : w.heap[S]? = some (.cells c 4 (0, 0))) (r : Nat) (u : Value) :
    Inv (w.setCell ⟨S, r, none⟩ u) (w.setCell ⟨S, r, none⟩ u) B D kd ob k f v ss := by
  obtain ⟨n1, n2, n3⟩ := h.seenNe hS
  refine ⟨Below.refl _ _, h.bD, ?_, ownsRow_setCell_other h.own n3 u, fun t ht => ?_, h.obInj, h.lt, fun _ _ h => h⟩
  · rw [heap_setCell_other w ⟨S, r, none⟩ D u (fun e => n1 e.symm)]; exact h.box
  · obtain ⟨hBt, c', hc', q⟩ := h.ords t ht
    exact ⟨hBt, c', by rw [heap_setCell_other w ⟨S, r, none⟩ (ob t) u (fun e => n2 t ht e.symm)]; exact hc', q⟩

/-- The row of marks is laid. -/
theorem Inv.madeSeen (h : Inv w0 w B D kd ob k f v ss) (cs : Array Value) : Inv (w.alloc (.cells cs 4)) (w.alloc (.cells cs 4)) B D kd ob k f v ss := by
  refine ⟨Below.refl _ _, h.bD, ?_, h.own.alloc _, fun t ht => ?_, h.obInj, h.lt, fun _ _ h => h⟩
  · rw [Below.heap_alloc _ _ _ (lt_of_block h.box)]; exact h.box
  · obtain ⟨hBt, c, hc, r⟩ := h.ords t ht
    exact ⟨hBt, c, by rw [Below.heap_alloc _ _ _ (lt_of_block hc)]; exact hc, r⟩
end
end Go.Proofs.Ybulkaoou
