import Derived.KernelRfl
namespace Go.Proofs.Ybulkaoou

/-! ### Heaps over a list of numbers, weighed by f: plain laws. -/
def at0 (ss : List Nat) (j : Nat) : Nat := ss.getD j 0
def swapL (ss : List Nat) (i j : Nat) : List Nat := (ss.set i (at0 ss j)).set j (at0 ss i)

theorem length_swapL (ss : List Nat) (i j : Nat) : (swapL ss i j).length = ss.length := by simp [swapL]
theorem at0_swapL {ss : List Nat} {i j : Nat} (hi : i < ss.length) (hj : j < ss.length) (k : Nat) : at0 (swapL ss i j) k = if k = j then at0 ss i else if k = i then at0 ss j else at0 ss k := by
  unfold swapL at0
  simp only [List.getD_eq_getElem?_getD, List.getElem?_set, List.length_set]
  by_cases h1 : k = j
  · subst h1; simp [hj]
  · rw [if_neg (fun h => h1 h.symm), if_neg h1]
    by_cases h2 : k = i
    · subst h2; simp [hi]
    · rw [if_neg (fun h => h2 h.symm), if_neg h2]
theorem swapL_self {ss : List Nat} {i : Nat} (hi : i < ss.length) : swapL ss i i = ss := by
  apply List.ext_getElem
  · simp [swapL]
  · intro k h1 h2
    simp only [swapL, at0, List.getElem_set]
    split
    · rename_i h; subst h; simp [hi]
    · rfl

/-- The first n numbers of ss', in whatever order, are those of ss; the rest stands; no number twice, if it was so. -/
structure Rel (n : Nat) (ss ss' : List Nat) : Prop where
  len : ss'.length = ss.length
  all : ∀ P : Nat → Prop, (∀ i, i < n → P (at0 ss i)) → ∀ i, i < n → P (at0 ss' i)
  tail : ∀ i, n ≤ i → at0 ss' i = at0 ss i
  inj : (∀ i j, i < ss.length → j < ss.length → at0 ss i = at0 ss j → i = j) → ∀ i j, i < ss'.length → j < ss'.length → at0 ss' i = at0 ss' j → i = j

theorem Rel.refl (n : Nat) (ss : List Nat) : Rel n ss ss := ⟨rfl, fun _ h => h, fun _ _ => rfl, fun h => h⟩
theorem Rel.trans {n : Nat} {a b c : List Nat} (h : Rel n a b) (k : Rel n b c) : Rel n a c :=
  ⟨k.len.trans h.len, fun P hP => k.all P (h.all P hP), fun i hi => (k.tail i hi).trans (h.tail i hi), fun hh => k.inj (h.inj hh)⟩
theorem Rel.swap {n : Nat} {ss : List Nat} {i j : Nat} (hn : n ≤ ss.length) (hi : i < n) (hj : j < n) : Rel n ss (swapL ss i j) := by
  have hA := fun k => at0_swapL (ss := ss) (i := i) (j := j) (by omega) (by omega) k
  refine ⟨length_swapL _ _ _, fun P hP k hk => ?_, fun k hk => ?_, fun hh a b ha hb hab => ?_⟩
  · rw [hA]
    split
    · exact hP i hi
    · split
      · exact hP j hj
      · exact hP k hk
  · rw [hA, if_neg (by omega), if_neg (by omega)]
  · rw [length_swapL] at ha hb
    rw [hA, hA] at hab
    have key : ∀ x y, x < ss.length → y < ss.length → at0 ss x = at0 ss y → x = y := hh
    by_cases a1 : a = j
    · by_cases b1 : b = j
      · omega
      · rw [if_pos a1, if_neg b1] at hab
        by_cases b2 : b = i
        · rw [if_pos b2] at hab; have := key _ _ (by omega) (by omega) hab; omega
        · rw [if_neg b2] at hab; have := key _ _ (by omega) (by omega) hab; omega
    · by_cases a2 : a = i
      · rw [if_neg a1, if_pos a2] at hab
        by_cases b1 : b = j
        · rw [if_pos b1] at hab; have := key _ _ (by omega) (by omega) hab; omega
        · rw [if_neg b1] at hab
          by_cases b2 : b = i
          · omega
          · rw [if_neg b2] at hab; have := key _ _ (by omega) (by omega) hab; omega
      · rw [if_neg a1, if_neg a2] at hab
        by_cases b1 : b = j
        · rw [if_pos b1] at hab; have := key _ _ (by omega) (by omega) hab; omega
        · rw [if_neg b1] at hab
          by_cases b2 : b = i
          · rw [if_pos b2] at hab; have := key _ _ (by omega) (by omega) hab; omega
          · rw [if_neg b2] at hab; exact key _ _ ha hb hab

section
variable (f : Nat → Int)
def HeapOk (ss : List Nat) (n : Nat) : Prop := ∀ j, 0 < j → j < n → f (at0 ss ((j - 1) / 2)) ≤ f (at0 ss j)
def DownOk (ss : List Nat) (n i : Nat) : Prop :=
  (∀ j, 0 < j → j < n → (j - 1) / 2 ≠ i → f (at0 ss ((j - 1) / 2)) ≤ f (at0 ss j)) ∧
  (0 < i → ∀ j, 0 < j → j < n → (j - 1) / 2 = i → f (at0 ss ((i - 1) / 2)) ≤ f (at0 ss j))
def UpOk (ss : List Nat) (n j : Nat) : Prop :=
  (∀ c, 0 < c → c < n → c ≠ j → f (at0 ss ((c - 1) / 2)) ≤ f (at0 ss c)) ∧
  (0 < j → ∀ c, 0 < c → c < n → (c - 1) / 2 = j → f (at0 ss ((j - 1) / 2)) ≤ f (at0 ss c))
end

variable {f : Nat → Int}
theorem root_min {ss : List Nat} {n : Nat} (h : HeapOk f ss n) : ∀ m j, j ≤ m → j < n → f (at0 ss 0) ≤ f (at0 ss j) := by
  intro m
  induction m with
  | zero => intro j hj _; obtain rfl : j = 0 := by omega
            exact Int.le_refl _
  | succ m ih =>
    intro j hj hn
    rcases Nat.eq_zero_or_pos j with h0 | h0
    · subst h0; exact Int.le_refl _
    · exact Int.le_trans (ih ((j - 1) / 2) (by omega) (by omega)) (h j h0 hn)

/-- Behind 'Swap(0, m-1)' the first m-1 are a heap but for the root. -/
theorem down_start {ss : List Nat} {m : Nat} (hm : 0 < m) (hl : ss.length = m) (h : HeapOk f ss m) : DownOk f (swapL ss 0 (m - 1)) (m - 1) 0 := by
  have hA := fun k => at0_swapL (ss := ss) (i := 0) (j := m - 1) (by omega) (by omega) k
  refine ⟨fun j h0 hj hp => ?_, fun h0 => by omega⟩
  rw [hA, hA, if_neg (by omega), if_neg (by omega), if_neg (by omega), if_neg (by omega)]
  exact h j h0 (by omega)

theorem down_none {ss : List Nat} {n i : Nat} (h : DownOk f ss n i) (hi : n ≤ 2 * i + 1) : HeapOk f ss n := by
  intro j h0 hj
  exact h.1 j h0 hj (by omega)

theorem down_stop {ss : List Nat} {n i c : Nat} (h : DownOk f ss n i) (hmin : ∀ j, 0 < j → j < n → (j - 1) / 2 = i → f (at0 ss c) ≤ f (at0 ss j)) (hs : ¬ f (at0 ss c) < f (at0 ss i)) : HeapOk f ss n := by
  intro j h0 hj
  by_cases hp : (j - 1) / 2 = i
  · have := hmin j h0 hj hp; rw [hp]; omega
  · exact h.1 j h0 hj hp

theorem down_step {ss : List Nat} {n i c : Nat} (hn : n ≤ ss.length) (hc : c < n) (hc0 : 0 < c) (hpc : (c - 1) / 2 = i) (h : DownOk f ss n i)
    (hmin : ∀ j, 0 < j → j < n → (j - 1) / 2 = i → f (at0 ss c) ≤ f (at0 ss j)) (hs : f (at0 ss c) < f (at0 ss i)) : DownOk f (swapL ss i c) n c := by
  have hA := fun k => at0_swapL (ss := ss) (i := i) (j := c) (by omega) (by omega) k
  refine ⟨fun j h0 hj hp => ?_, fun _ j h0 hj hp => ?_⟩
  · rw [hA, hA, if_neg hp]
    by_cases j1 : j = c
    · rw [if_pos j1, if_pos (by omega)]; omega
    · rw [if_neg j1]
      by_cases j2 : j = i
      · rw [if_pos j2, if_neg (by omega)]
        have := h.2 (by omega) c hc0 hc hpc
        rw [j2]; exact this
      · rw [if_neg j2]
        by_cases p1 : (j - 1) / 2 = i
        · rw [if_pos p1]; exact hmin j h0 hj p1
        · rw [if_neg p1]; exact h.1 j h0 hj p1
  · rw [hA, hA, if_neg (by omega), if_pos hpc, if_neg (by omega), if_neg (by omega)]
    have := h.1 j h0 hj (by omega)
    rwa [hp] at this

theorem up_start {ss : List Nat} {m s : Nat} (hl : ss.length = m) (h : HeapOk f ss m) : UpOk f (ss ++ [s]) (m + 1) m := by
  refine ⟨fun c h0 hc hn => ?_, fun h0 c hc0 hc hp => by omega⟩
  have e1 : at0 (ss ++ [s]) c = at0 ss c := by unfold at0; simp only [List.getD_eq_getElem?_getD]; rw [List.getElem?_append_left (by omega)]
  have e2 : at0 (ss ++ [s]) ((c - 1) / 2) = at0 ss ((c - 1) / 2) := by unfold at0; simp only [List.getD_eq_getElem?_getD]; rw [List.getElem?_append_left (by omega)]
  rw [e1, e2]; exact h c h0 (by omega)

theorem up_root {ss : List Nat} {n : Nat} (h : UpOk f ss n 0) : HeapOk f ss n := fun c h0 hc => h.1 c h0 hc (by omega)
theorem up_stop {ss : List Nat} {n j : Nat} (h : UpOk f ss n j) (hs : ¬ f (at0 ss j) < f (at0 ss ((j - 1) / 2))) : HeapOk f ss n := by
  intro c h0 hc
  by_cases e : c = j
  · subst e; omega
  · exact h.1 c h0 hc e

theorem up_step {ss : List Nat} {n j i : Nat} (hn : n ≤ ss.length) (hj : j < n) (hj0 : 0 < j) (hi : (j - 1) / 2 = i) (h : UpOk f ss n j) (hs : f (at0 ss j) < f (at0 ss i)) : UpOk f (swapL ss i j) n i := by
  have hA := fun k => at0_swapL (ss := ss) (i := i) (j := j) (by omega) (by omega) k
  refine ⟨fun c h0 hc hne => ?_, fun hi0 c h0 hc hp => ?_⟩
  · rw [hA, hA]
    by_cases c1 : c = j
    · rw [if_pos c1, if_neg (by omega), if_pos (by omega)]; omega
    · rw [if_neg c1, if_neg hne]
      by_cases p1 : (c - 1) / 2 = j
      · rw [if_pos p1]
        have := h.2 hj0 c h0 hc p1
        rwa [hi] at this
      · rw [if_neg p1]
        by_cases p2 : (c - 1) / 2 = i
        · rw [if_pos p2]
          have := h.1 c h0 hc c1
          rw [p2] at this; omega
        · rw [if_neg p2]; exact h.1 c h0 hc c1
  · rw [hA, hA, if_neg (by omega), if_neg (by omega)]
    have hpi := h.1 i hi0 (by omega) (by omega)
    by_cases c1 : c = j
    · rw [if_pos c1]; exact hpi
    · rw [if_neg c1, if_neg (by omega)]
      have := h.1 c h0 hc c1
      rw [hp] at this; omega
end Go.Proofs.Ybulkaoou
