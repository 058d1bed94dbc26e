import Derived.Test.YbulkaopwPlain2
namespace Go.Proofs.Ybulkaopw
set_option linter.unusedVariables false

/-- The k-th digit of a number, the least being the 0-th. -/
def dig (N k : Nat) : Nat := N / 10 ^ k % 10

theorem dig_lt (N k : Nat) : dig N k < 10 := Nat.mod_lt _ (by decide)

theorem getD_dig {ds : List Nat} (h : ∀ d ∈ ds, d < 10) (k : Nat) : ds.getD k 0 = dig (val ds) k := by
  induction ds generalizing k with
  | nil => simp [dig, val]
  | cons d ds ih =>
    have h1 := h d (by simp)
    have h2 := ih fun x hx => h x (by simp [hx])
    cases k with
    | zero => simp only [List.getD_cons_zero, dig, val, Nat.pow_zero, Nat.div_one]; omega
    | succ k =>
      rw [List.getD_cons_succ, h2 k]
      unfold dig
      rw [val, Nat.pow_succ, Nat.mul_comm (10 ^ k), ← Nat.div_div_eq_div_mul]
      congr 2
      omega

theorem val_zero {ds : List Nat} (h : ∀ k, ds.getD k 0 = 0) : val ds = 0 := by
  induction ds with
  | nil => rfl
  | cons d ds ih =>
    have h0 := h 0
    have h1 := ih fun k => by have := h (k + 1); simpa using this
    simp at h0
    simp [val, h0, h1]

theorem val_trim (ds : List Nat) (n : Nat) (hn : n ≤ ds.length) (h : ∀ k, n ≤ k → ds.getD k 0 = 0) : val (ds.take n) = val ds := by
  have h1 := val_split ds n hn
  have h2 : val (ds.drop n) = 0 := val_zero fun k => by
    have := h (n + k) (by omega)
    simpa [List.getD_eq_getElem?_getD, List.getElem?_drop] using this
  rw [h2] at h1
  omega

/-- How many digits are written. -/
structure LOK (N sc L : Nat) : Prop where
  lo : sc + 1 ≤ L
  zero : ∀ k, L ≤ k → dig N k = 0
  top : L = sc + 1 ∨ dig N (L - 1) ≠ 0

theorem LOK.unique {N sc L L' : Nat} (h : LOK N sc L) (h' : LOK N sc L') : L = L' := by
  rcases Nat.lt_trichotomy L L' with hl | hl | hl
  · rcases h'.top with ht | ht
    · have := h.lo; omega
    · exact absurd (h.zero (L' - 1) (by omega)) ht
  · exact hl
  · rcases h.top with ht | ht
    · have := h'.lo; omega
    · exact absurd (h'.zero (L - 1) (by omega)) ht

/-- The text of the top c digits of L. -/
def txt (sc L : Nat) (f : Nat → Nat) : Nat → List Nat
  | 0 => []
  | c + 1 => txt sc L f c ++ (if 0 < sc ∧ L - 1 - c = sc - 1 then [46] else []) ++ [48 + f (L - 1 - c)]

theorem txt_len (sc L : Nat) (f : Nat → Nat) (c : Nat) : (txt sc L f c).length ≤ 2 * c := by
  induction c with
  | zero => simp [txt]
  | succ c ih =>
    simp only [txt, List.length_append, List.length_cons, List.length_nil]
    split
    · simp only [List.length_cons, List.length_nil]; omega
    · simp only [List.length_nil]; omega

theorem txt_dot {sc L : Nat} {f : Nat → Nat} {c : Nat} (h : 0 < sc) (h2 : L - 1 - c = sc - 1) : txt sc L f (c + 1) = txt sc L f c ++ [46] ++ [48 + f (L - 1 - c)] := by
  rw [txt, if_pos ⟨h, h2⟩]

theorem txt_plain {sc L : Nat} {f : Nat → Nat} {c : Nat} (h : ¬ (0 < sc ∧ L - 1 - c = sc - 1)) : txt sc L f (c + 1) = txt sc L f c ++ [48 + f (L - 1 - c)] := by
  rw [txt, if_neg h, List.append_nil]

/-- What the padding keeps. -/
structure Pad (N sc : Nat) (es : List Nat) : Prop where
  all : ∀ d ∈ es, d < 10
  eqn : val es = N
  top : es.length ≤ sc + 1 ∨ dig N (es.length - 1) ≠ 0

theorem Pad.push {N sc : Nat} {es : List Nat} (h : Pad N sc es) (hl : es.length < sc + 1) : Pad N sc (es ++ [0]) := by
  refine ⟨fun d hd => ?_, ?_, .inl ?_⟩
  · rcases List.mem_append.1 hd with hd | hd
    · exact h.all d hd
    · simp at hd; omega
  · rw [val_append, val_single, h.eqn]; rfl
  · simp only [List.length_append, List.length_cons, List.length_nil]; omega

theorem Pad.lok {N sc : Nat} {es : List Nat} (h : Pad N sc es) (hl : sc + 1 ≤ es.length) : LOK N sc es.length := by
  refine ⟨hl, fun k hk => ?_, ?_⟩
  · rw [← h.eqn, ← getD_dig h.all]
    simp [hk]
  · rcases h.top with ht | ht
    · exact .inl (by omega)
    · exact .inr ht

theorem Pad.start {dv : List Nat} {n sc : Nat} (hd : ∀ d ∈ dv, d < 10) (hn : n ≤ dv.length) (hz : ∀ k, n ≤ k → dv.getD k 0 = 0) (ht : n = 0 ∨ dv.getD (n - 1) 0 ≠ 0) : Pad (val dv) sc (dv.take n) := by
  refine ⟨fun d h => hd d (List.mem_of_mem_take h), val_trim _ _ hn hz, ?_⟩
  rw [List.length_take, Nat.min_eq_left hn]
  rcases ht with rfl | ht
  · exact .inl (by omega)
  · exact .inr (by rwa [← getD_dig hd])

end Go.Proofs.Ybulkaopw
