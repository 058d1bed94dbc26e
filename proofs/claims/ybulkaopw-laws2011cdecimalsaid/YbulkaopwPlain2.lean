import Derived.Test.YbulkaopwPlain
namespace Go.Proofs.Ybulkaopw
set_option linter.unusedVariables false

theorem val_lt {ds : List Nat} (h : ∀ d ∈ ds, d < 10) : val ds < 10 ^ ds.length := by
  induction ds with
  | nil => simp [val]
  | cons d ds ih =>
    have h1 := h d (by simp)
    have h2 := ih fun x hx => h x (by simp [hx])
    simp only [val, List.length_cons, Nat.pow_succ]
    omega

theorem val_split (ds : List Nat) (i : Nat) (hi : i ≤ ds.length) : val ds = val (ds.take i) + 10 ^ i * val (ds.drop i) := by
  have h := val_append (ds.take i) (ds.drop i)
  rw [List.take_append_drop, List.length_take, Nat.min_eq_left hi] at h
  exact h

theorem val_take_succ (ds : List Nat) (i : Nat) (hi : i < ds.length) : val (ds.take (i + 1)) = val (ds.take i) + 10 ^ i * ds.getD i 0 := by
  have h := val_take_set ds i (ds.getD i 0) hi
  have e : ds.set i (ds.getD i 0) = ds := by
    have : ds.getD i 0 = ds[i] := by simp [hi]
    rw [this]; exact List.set_getElem_self hi
  rwa [e] at h

theorem val_set_add (ds : List Nat) (i x : Nat) (hi : i < ds.length) : val (ds.set i (ds.getD i 0 + x)) = val ds + 10 ^ i * x := by
  rw [val_split (ds.set i (ds.getD i 0 + x)) (i + 1) (by rw [List.length_set]; exact hi), val_take_set _ _ _ hi, drop_set, val_split ds (i + 1) hi, val_take_succ _ _ hi, Nat.mul_add]
  omega

/-- What the product's inner loop keeps. -/
structure Prd (as bs acc : List Nat) (i j : Nat) : Prop where
  all : ∀ k, acc.getD k 0 ≤ 81 * (i + 1)
  late : ∀ k, i + j ≤ k → acc.getD k 0 ≤ 81 * i
  eq : val acc = val (as.take i) * val bs + 10 ^ i * (as.getD i 0 * val (bs.take j))

theorem getD_set (ds : List Nat) (i k x : Nat) : (ds.set i x).getD k 0 = if i = k ∧ i < ds.length then x else ds.getD k 0 := by
  simp only [List.getD_eq_getElem?_getD, List.getElem?_set]
  by_cases h : i = k
  · subst h
    by_cases h2 : i < ds.length
    · simp [h2]
    · simp [h2]
  · simp [h]

theorem Prd.step {as bs acc : List Nat} {i j : Nat} (h : Prd as bs acc i j) (hk : i + j < acc.length) (hj : j < bs.length) (ha : as.getD i 0 < 10) (hb : bs.getD j 0 < 10) :
    Prd as bs (acc.set (i + j) (acc.getD (i + j) 0 + as.getD i 0 * bs.getD j 0)) i (j + 1) := by
  have hm : as.getD i 0 * bs.getD j 0 ≤ 9 * 9 := Nat.mul_le_mul (by omega) (by omega)
  refine ⟨fun k => ?_, fun k hk' => ?_, ?_⟩
  · rw [getD_set]
    split
    · have := h.late (i + j) (Nat.le_refl _); omega
    · exact h.all k
  · rw [getD_set, if_neg (by omega)]
    exact h.late k (by omega)
  · rw [val_set_add _ _ _ hk, h.eq, val_take_succ _ _ hj, Nat.pow_add]
    generalize as.getD i 0 = a
    generalize bs.getD j 0 = b
    generalize val (bs.take j) = B
    rw [Nat.mul_add a, Nat.mul_add (10 ^ i)]
    have : 10 ^ i * 10 ^ j * (a * b) = 10 ^ i * (a * (10 ^ j * b)) := by rw [Nat.mul_assoc, Nat.mul_left_comm (10 ^ j)]
    omega

/-- .. and the outer loop. -/
structure Prd0 (as bs acc : List Nat) (i : Nat) : Prop where
  all : ∀ k, acc.getD k 0 ≤ 81 * i
  eq : val acc = val (as.take i) * val bs

theorem Prd0.start (as bs : List Nat) (n : Nat) : Prd0 as bs (List.replicate n 0) 0 := by
  have h0 : ∀ n, val (List.replicate n 0) = 0 := fun n => by
    induction n with
    | zero => rfl
    | succ n ih => simp [List.replicate_succ, val, ih]
  refine ⟨fun k => ?_, by simp [val, h0]⟩
  by_cases h : k < n <;> simp [h]

theorem Prd0.enter {as bs acc : List Nat} {i : Nat} (h : Prd0 as bs acc i) : Prd as bs acc i 0 :=
  ⟨fun k => by have := h.all k; omega, fun k _ => h.all k, by rw [h.eq]; simp [val]⟩

theorem Prd.leave {as bs acc : List Nat} {i : Nat} (h : Prd as bs acc i bs.length) (hi : i < as.length) : Prd0 as bs acc (i + 1) :=
  ⟨h.all, by rw [h.eq, val_take_succ _ _ hi, List.take_length, Nat.add_mul, Nat.mul_assoc]⟩

/-- What the carrying loop keeps. -/
def Car (acc out : List Nat) (i c K : Nat) : Prop := val (out.take i) + c * 10 ^ i + 10 ^ i * val (acc.drop i) = K

theorem Car.start (acc out : List Nat) : Car acc out 0 0 (val acc) := by simp [Car, val]

theorem Car.step {acc out : List Nat} {i c K : Nat} (h : Car acc out i c K) (hi : i < acc.length) (ho : i < out.length) :
    Car acc (out.set i ((acc.getD i 0 + c) % 10)) (i + 1) ((acc.getD i 0 + c) / 10) K := by
  unfold Car at *
  rw [val_take_set _ _ _ ho, Nat.pow_succ]
  rw [val_drop _ _ hi] at h
  generalize acc.getD i 0 = d at *
  generalize val (acc.drop (i + 1)) = R at *
  generalize val (out.take i) = T at *
  generalize 10 ^ i = P at *
  have e : P * (10 * ((d + c) / 10) + (d + c) % 10) = P * (d + c) := by rw [Nat.div_add_mod]
  generalize (d + c) / 10 = q at *
  generalize (d + c) % 10 = r at *
  rw [← h]
  have e1 : q * (P * 10) = P * (10 * q) := by rw [Nat.mul_comm q, Nat.mul_assoc]
  have e2 : P * 10 * R = P * (10 * R) := Nat.mul_assoc _ _ _
  rw [Nat.mul_add, Nat.mul_add P d] at e
  rw [e1, e2, Nat.mul_add P d, Nat.mul_comm c P]
  omega

theorem Car.done {acc out : List Nat} {n c K : Nat} (h : Car acc out n c K) (ha : acc.length = n) (ho : out.length = n) (hK : K < 10 ^ n) : val out = K := by
  subst ha
  unfold Car at h
  rw [List.drop_length, ← ho, List.take_length, ho] at h
  simp only [val, Nat.mul_zero, Nat.add_zero] at h
  have : c = 0 := by
    rcases Nat.eq_zero_or_pos c with h0 | h0
    · exact h0
    · have := Nat.mul_le_mul_right (10 ^ acc.length) h0
      omega
  subst this
  omega

theorem prod_lt {as bs : List Nat} (ha : ∀ d ∈ as, d < 10) (hb : ∀ d ∈ bs, d < 10) : val as * val bs < 10 ^ (as.length + bs.length) := by
  rw [Nat.pow_add]
  exact Nat.mul_lt_mul'' (val_lt ha) (val_lt hb)

end Go.Proofs.Ybulkaopw
