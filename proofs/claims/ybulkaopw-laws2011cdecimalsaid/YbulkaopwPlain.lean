import Derived.Below
namespace Go.Proofs.Ybulkaopw
set_option linter.unusedVariables false

/-- The number that a row of digits stands for, the least first. -/
def val : List Nat → Nat
  | [] => 0
  | d :: ds => d + 10 * val ds

theorem val_append (a b : List Nat) : val (a ++ b) = val a + 10 ^ a.length * val b := by
  induction a with
  | nil => simp [val]
  | cons d a ih =>
    simp only [List.cons_append, val, ih, List.length_cons, Nat.pow_succ]
    rw [Nat.mul_add, Nat.mul_assoc, Nat.mul_left_comm]
    omega

theorem val_single (c : Nat) : val [c] = c := by simp [val]

theorem val_drop (cur : List Nat) (i : Nat) (hi : i < cur.length) : val (cur.drop i) = cur.getD i 0 + 10 * val (cur.drop (i + 1)) := by
  rw [List.drop_eq_getElem_cons hi]
  simp [val, hi]

theorem val_take_set (cur : List Nat) (i x : Nat) (hi : i < cur.length) : val ((cur.set i x).take (i + 1)) = val (cur.take i) + 10 ^ i * x := by
  have h : (cur.set i x).take (i + 1) = cur.take i ++ [x] := by
    rw [List.take_add_one, List.take_set_of_le (Nat.le_refl _)]
    simp [hi]
  rw [h, val_append, val_single, List.length_take, Nat.min_eq_left (Nat.le_of_lt hi)]

theorem drop_set (cur : List Nat) (i x : Nat) : (cur.set i x).drop (i + 1) = cur.drop (i + 1) := List.drop_set_of_lt (Nat.lt_succ_self i)

/-- What the doubling loop keeps: the digits below i are doubled, c is carried, the rest is to come. -/
def Dbl (cur : List Nat) (i c K : Nat) : Prop := val (cur.take i) + c * 10 ^ i + 2 * (10 ^ i * val (cur.drop i)) = K

theorem dbl_step {cur : List Nat} {i c K : Nat} (hi : i < cur.length) (h : Dbl cur i c K) :
    Dbl (cur.set i ((cur.getD i 0 * 2 + c) % 10)) (i + 1) ((cur.getD i 0 * 2 + c) / 10) K := by
  unfold Dbl at *
  rw [val_take_set _ _ _ hi, drop_set, Nat.pow_succ]
  rw [val_drop _ _ hi] at h
  generalize cur.getD i 0 = d at *
  generalize val (cur.drop (i + 1)) = R at *
  generalize val (cur.take i) = T at *
  generalize 10 ^ i = P at *
  have e : P * (10 * ((d * 2 + c) / 10) + (d * 2 + c) % 10) = P * (d * 2 + c) := by rw [Nat.div_add_mod]
  generalize (d * 2 + c) / 10 = q at *
  generalize (d * 2 + c) % 10 = r at *
  rw [← h]
  have e1 : q * (P * 10) = P * (10 * q) := by rw [Nat.mul_comm q, Nat.mul_assoc]
  have e2 : P * 10 * R = P * (10 * R) := Nat.mul_assoc _ _ _
  rw [Nat.mul_add] at e
  rw [e1, e2, Nat.mul_add P d, Nat.mul_comm c P]
  rw [Nat.mul_add, ← Nat.mul_assoc P d 2] at e
  omega

theorem dbl_start (cur : List Nat) (c : Nat) : Dbl cur 0 c (2 * val cur + c) := by
  simp [Dbl, val]; omega

theorem dbl_end {cur : List Nat} {c K : Nat} (h : Dbl cur cur.length c K) : val cur + c * 10 ^ cur.length = K := by
  unfold Dbl at h
  simpa [val] using h

theorem dbl_push {cur : List Nat} {c K : Nat} (h : Dbl cur cur.length c K) : val (cur ++ [c]) = K := by
  rw [val_append, val_single, ← dbl_end h, Nat.mul_comm]

/-- The number of the words, the greatest first. -/
def num : List Nat → Nat := List.foldl (fun a x => a * 18446744073709551616 + x) 0

theorem num_snoc (a : List Nat) (x : Nat) : num (a ++ [x]) = num a * 18446744073709551616 + x := by simp [num]

theorem num_take (ws : List Nat) (k : Nat) (hk : k < ws.length) : num (ws.take (k + 1)) = num (ws.take k) * 18446744073709551616 + ws.getD k 0 := by
  rw [List.take_add_one, ← num_snoc]
  simp [hk]

/-- One bit more. -/
theorem bit_step (V x k : Nat) (hk : k ≤ 63) : 2 * (V * 2 ^ (64 - (k + 1)) + x / 2 ^ (k + 1)) + x / 2 ^ k % 2 = V * 2 ^ (64 - k) + x / 2 ^ k := by
  have e : 64 - k = 64 - (k + 1) + 1 := by omega
  have e1 : x / 2 ^ (k + 1) = x / 2 ^ k / 2 := by rw [Nat.pow_succ, Nat.div_div_eq_div_mul]
  rw [e1, e, Nat.pow_succ, ← Nat.mul_assoc]
  generalize V * 2 ^ (64 - (k + 1)) = A
  generalize x / 2 ^ k = y
  omega

theorem mem_set {ds : List Nat} {i x : Nat} (h : ∀ d ∈ ds, d < 10) (hx : x < 10) : ∀ d ∈ ds.set i x, d < 10 := by
  intro d hd
  rcases List.mem_or_eq_of_mem_set hd with h1 | rfl
  · exact h d h1
  · exact hx

theorem getD_lt {ds : List Nat} (h : ∀ d ∈ ds, d < 10) (i : Nat) : ds.getD i 0 < 10 := by
  by_cases hi : i < ds.length
  · have : ds.getD i 0 = ds[i] := by simp [hi]
    rw [this]; exact h _ (List.getElem_mem hi)
  · simp [hi]

end Go.Proofs.Ybulkaopw
