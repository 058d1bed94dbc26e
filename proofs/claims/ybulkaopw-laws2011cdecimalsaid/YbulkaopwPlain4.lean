import Derived.Test.YbulkaopwPlain3
import Derived.Test.YbulkaopwTmul
namespace Go.Proofs.Ybulkaopw
set_option linter.unusedVariables false
set_option linter.unusedSimpArgs false

theorem num5 (a b c d e : Nat) : num [a, b, c, d, e] = (((a * 18446744073709551616 + b) * 18446744073709551616 + c) * 18446744073709551616 + d) * 18446744073709551616 + e := by simp [num]
theorem num3 (a b c : Nat) : num [a, b, c] = (a * 18446744073709551616 + b) * 18446744073709551616 + c := by simp [num]
theorem num2 (a b : Nat) : num [a, b] = a * 18446744073709551616 + b := by simp [num]

theorem rows_val (M hi mid lo uh ul p0 p1 p2 p3 p4 a b c d c1 c2 c3 : Nat) (r1 : p0 + c1 * M = lo * ul + 0) (r2 : a + b * M = lo * uh + 0 + c1) (r3 : p1 + c2 * M = mid * ul + a) (r4 : c + d * M = mid * uh + b + c2)
    (r5 : p2 + c3 * M = hi * ul + c) (r6 : p3 + p4 * M = hi * uh + d + c3) : (((p4 * M + p3) * M + p2) * M + p1) * M + p0 = ((hi * M + mid) * M + lo) * (uh * M + ul) := by
  have t1 := r1
  have t2 := congrArg (· * M) r2
  have t3 := congrArg (· * M) r3
  have t4 := congrArg (· * M * M) r4
  have t5 := congrArg (· * M * M) r5
  have t6 := congrArg (· * M * M * M) r6
  simp only [Nat.add_mul, Nat.mul_add, Nat.mul_assoc, Nat.mul_comm, Nat.mul_left_comm, Nat.add_zero, Nat.mul_zero] at *
  omega

theorem St.num {hi mid lo uh ul p0 p1 p2 p3 p4 : Nat} (h : St hi mid lo uh ul 3 p0 p1 p2 p3 p4) : num [p4, p3, p2, p1, p0] = Ybulkaopw.num [hi, mid, lo] * Ybulkaopw.num [uh, ul] := by
  rcases h with ⟨h, _⟩ | ⟨h, _⟩ | ⟨h, _⟩ | ⟨_, a, b, c, d, ⟨c1, r1, r2⟩, ⟨c2, r3, r4⟩, ⟨c3, r5, r6⟩⟩
  · cases h
  · cases h
  · cases h
  · rw [num5, num3, num2]
    exact rows_val _ _ _ _ _ _ _ _ _ _ _ _ _ _ _ _ _ _ r1 r2 r3 r4 r5 r6

theorem num_append (a b : List Nat) : num (a ++ b) = num a * 18446744073709551616 ^ b.length + num b := by
  have h : ∀ (b : List Nat) (x : Nat), b.foldl (fun a x => a * 18446744073709551616 + x) x = x * 18446744073709551616 ^ b.length + num b := by
    intro b
    induction b with
    | nil => intro x; simp [num]
    | cons y b ih =>
      intro x
      simp only [List.foldl_cons, List.length_cons, num]
      rw [ih, ih (0 * 18446744073709551616 + y), Nat.pow_succ, Nat.zero_mul, Nat.zero_add]
      generalize 18446744073709551616 ^ b.length = P
      rw [Nat.add_mul, Nat.mul_assoc, Nat.mul_comm P]
      omega
  have e : num (a ++ b) = b.foldl (fun a x => a * 18446744073709551616 + x) (num a) := by simp [num]
  rw [e, h]

theorem num_lt {ws : List Nat} (h : ∀ x ∈ ws, x < 18446744073709551616) : num ws < 18446744073709551616 ^ ws.length := by
  have key : ∀ (n : Nat) (ws : List Nat), ws.length = n → (∀ x ∈ ws, x < 18446744073709551616) → num ws < 18446744073709551616 ^ n := by
    intro n
    induction n with
    | zero => intro ws hl _; rw [List.length_eq_zero_iff.1 hl]; simp [num]
    | succ n ih =>
      intro ws hl hx
      have hne : ws ≠ [] := by intro h; rw [h] at hl; simp at hl
      rw [← List.dropLast_concat_getLast hne, num_snoc, Nat.pow_succ]
      have h1 := ih ws.dropLast (by simp [hl]) fun x hx' => hx x (by rw [List.dropLast_eq_take] at hx'; exact List.mem_of_mem_take hx')
      have h2 := hx _ (List.getLast_mem hne)
      generalize num ws.dropLast = A at *
      generalize ws.getLast hne = z at *
      generalize 18446744073709551616 ^ n = P at *
      have h3 : (A + 1) * 18446744073709551616 ≤ P * 18446744073709551616 := Nat.mul_le_mul_right _ h1
      omega
  exact key _ _ rfl h

theorem big_lt (hi mid lo uh ul : Nat) (b1 : hi < 18446744073709551616) (b2 : mid < 18446744073709551616) (b3 : lo < 18446744073709551616) (b4 : uh < 18446744073709551616) (b5 : ul < 18446744073709551616) :
    num [hi, mid, lo] * num [uh, ul] < 10 ^ 108 := by
  have h1 := num_lt (ws := [hi, mid, lo]) (by simp [b1, b2, b3])
  have h2 := num_lt (ws := [uh, ul]) (by simp [b4, b5])
  have h3 : num [hi, mid, lo] * num [uh, ul] < 18446744073709551616 ^ 3 * 18446744073709551616 ^ 2 := Nat.mul_lt_mul'' h1 h2
  exact Nat.lt_of_lt_of_le h3 (by decide)

/-- What the long division keeps: the quotient's words ahead of i, the rest r, the words from i on. -/
def Dvd (cur : List Nat) (i r V : Nat) : Prop := (num (cur.take i) * 1000000000000000000 + r) * 18446744073709551616 ^ (5 - i) + num (cur.drop i) = V

theorem Dvd.start (cur : List Nat) : Dvd cur 0 0 (num cur) := by simp [Dvd, num]

theorem num_drop (cur : List Nat) (i : Nat) (hi : i < cur.length) : num (cur.drop i) = cur.getD i 0 * 18446744073709551616 ^ (cur.length - (i + 1)) + num (cur.drop (i + 1)) := by
  rw [List.drop_eq_getElem_cons hi]
  have := num_append [cur[i]] (cur.drop (i + 1))
  rw [List.singleton_append] at this
  rw [this]
  simp [num, hi]

theorem num_take_set (cur : List Nat) (i x : Nat) (hi : i < cur.length) : num ((cur.set i x).take (i + 1)) = num (cur.take i) * 18446744073709551616 + x := by
  have h : (cur.set i x).take (i + 1) = cur.take i ++ [x] := by
    rw [List.take_add_one, List.take_set_of_le (Nat.le_refl _)]
    simp [hi]
  rw [h, num_snoc]

theorem dvd_alg (T D r M x q s P R : Nat) (e : D * q + s = r * M + x) : ((T * M + q) * D + s) * P + R = (T * D + r) * (P * M) + (x * P + R) := by
  have h : (T * M + q) * D + s = (T * D + r) * M + x := by
    rw [Nat.add_mul, Nat.add_mul, Nat.mul_assoc, Nat.mul_assoc, Nat.mul_comm M D, Nat.mul_comm q D]
    omega
  rw [h, Nat.add_mul, Nat.mul_comm P M, Nat.mul_assoc]
  omega

theorem Dvd.step {cur : List Nat} {i r V : Nat} (hl : cur.length = 5) (hi : i < 5) (h : Dvd cur i r V) :
    Dvd (cur.set i ((r * 18446744073709551616 + cur.getD i 0) / 1000000000000000000)) (i + 1) ((r * 18446744073709551616 + cur.getD i 0) % 1000000000000000000) V := by
  unfold Dvd at *
  rw [num_take_set _ _ _ (by omega), drop_set]
  rw [num_drop _ _ (by omega), hl] at h
  have e5 : 5 - i = 5 - (i + 1) + 1 := by omega
  rw [e5, Nat.pow_succ] at h
  generalize 18446744073709551616 ^ (5 - (i + 1)) = P at *
  generalize num (cur.drop (i + 1)) = R at *
  generalize num (cur.take i) = T at *
  generalize cur.getD i 0 = x at *
  have e := Nat.div_add_mod (r * 18446744073709551616 + x) 1000000000000000000
  generalize (r * 18446744073709551616 + x) / 1000000000000000000 = q at *
  generalize (r * 18446744073709551616 + x) % 1000000000000000000 = s at *
  rw [← h]
  exact dvd_alg _ _ _ _ _ _ _ _ _ e

theorem Dvd.done {cur : List Nat} {r V : Nat} (hl : cur.length = 5) (h : Dvd cur 5 r V) (hr : r < 1000000000000000000) : num cur = V / 1000000000000000000 ∧ r = V % 1000000000000000000 := by
  unfold Dvd at h
  rw [← hl, List.take_length, List.drop_length, Nat.sub_self] at h
  simp [num] at h
  unfold num
  generalize List.foldl (fun a x => a * 18446744073709551616 + x) 0 cur = A at *
  omega

/-- The 108 places: the digits below m are written, the others hold '0'. -/
structure DS (N : Nat) (ds : List Nat) (m : Nat) : Prop where
  len : ds.length = 108
  at' : ∀ k, k < 108 → ds.getD (107 - k) 0 = 48 + (if k < m then dig N k else 0)

theorem DS.start (N : Nat) : DS N (List.replicate 108 48) 0 := by
  have h : ∀ n i, i < n → (List.replicate n 48).getD i 0 = 48 := by intro n i h; simp [h]
  refine ⟨List.length_replicate, fun k hk => ?_⟩
  rw [h 108 (107 - k) (by omega), if_neg (by omega)]

theorem DS.step {N : Nat} {ds : List Nat} {m : Nat} (h : DS N ds m) (hm : m < 108) : DS N (ds.set (107 - m) (48 + dig N m)) (m + 1) := by
  refine ⟨by rw [List.length_set, h.len], fun k hk => ?_⟩
  rw [getD_set]
  by_cases hk' : k = m
  · subst hk'
    rw [if_pos ⟨rfl, by rw [h.len]; omega⟩, if_pos (by omega)]
  · rw [if_neg (by omega), h.at' k hk]
    by_cases h1 : k < m
    · rw [if_pos h1, if_pos (by omega)]
    · rw [if_neg h1, if_neg (by omega)]

theorem DS.skip {N : Nat} {ds : List Nat} {m m' : Nat} (h : DS N ds m) (hm : m ≤ m') (hz : ∀ k, m ≤ k → k < m' → dig N k = 0) : DS N ds m' := by
  refine ⟨h.len, fun k hk => ?_⟩
  rw [h.at' k hk]
  by_cases h1 : k < m
  · rw [if_pos h1, if_pos (by omega)]
  · rw [if_neg h1]
    by_cases h2 : k < m'
    · rw [if_pos h2, hz k (by omega) h2]
    · rw [if_neg h2]

theorem digR (N t j : Nat) (hj : j < 18) : N / 10 ^ (18 * t) % 1000000000000000000 / 10 ^ j % 10 = dig N (18 * t + j) := by
  have e : (1000000000000000000 : Nat) = 10 ^ j * 10 ^ (18 - j) := by rw [← Nat.pow_add, show j + (18 - j) = 18 by omega]
  have e2 : 10 ^ (18 - j) = 10 * 10 ^ (17 - j) := by rw [show 18 - j = 17 - j + 1 by omega, Nat.pow_succ, Nat.mul_comm]
  unfold dig
  rw [e, Nat.mod_mul_right_div_self, Nat.div_div_eq_div_mul, ← Nat.pow_add, e2, Nat.mod_mul_right_mod]

theorem next18 (N t : Nat) : N / 10 ^ (18 * t) / 1000000000000000000 = N / 10 ^ (18 * (t + 1)) := by
  rw [Nat.div_div_eq_div_mul, Nat.mul_add, Nat.pow_add]

theorem dig_zero (N m k : Nat) (h : N / 10 ^ m = 0) (hk : m ≤ k) : dig N k = 0 := by
  unfold dig
  rw [show k = m + (k - m) by omega, Nat.pow_add, ← Nat.div_div_eq_div_mul, h]
  simp

end Go.Proofs.Ybulkaopw
