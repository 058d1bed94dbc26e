import Derived.KernelRfl
namespace Go.Proofs.YbulkaolaDoor

/-- The bytes at which a scalar ends. -/
def stopB (c : Int) : Bool := c == 44 || c == 58 || c == 123 || c == 125 || c == 91 || c == 93 || c == 34 || c == 32 || c == 9 || c == 10 || c == 13

/-- How many bytes a string takes from here on, through its closing quote, or all. -/
def strL : Bool → List Int → Nat
  | _, [] => 0
  | esc, c :: r => if esc then 1 + strL false r else if c = 92 then 1 + strL true r else if c = 34 then 1 else 1 + strL false r

/-- How many bytes a bracketed value takes from here on. -/
def brL : Int → Bool → Bool → List Int → Nat
  | _, _, _, [] => 0
  | d, true, esc, b :: r => if esc then 1 + brL d true false r else if b = 92 then 1 + brL d true true r else if b = 34 then 1 + brL d false esc r else 1 + brL d true esc r
  | d, false, esc, b :: r =>
    if b = 34 then 1 + brL d true esc r
    else if b = 123 ∨ b = 91 then 1 + brL (d + 1) false esc r
    else if b = 125 ∨ b = 93 then (if d - 1 = 0 then 1 else 1 + brL (d - 1) false esc r)
    else 1 + brL d false esc r

/-- How many bytes a scalar takes from here on. -/
def scL : List Int → Nat
  | [] => 0
  | c :: r => if stopB c then 0 else 1 + scL r

/-- Where the value at p ends. -/
def valE (zs : List Int) (p : Nat) : Nat :=
  if p < zs.length then
    if zs.getD p 0 = 34 then p + 1 + strL false (zs.drop (p + 1))
    else if zs.getD p 0 = 123 ∨ zs.getD p 0 = 91 then p + brL 0 false false (zs.drop p)
    else p + scL (zs.drop p)
  else p

theorem strL_le (l : List Int) : ∀ esc, strL esc l ≤ l.length := by
  induction l with
  | nil => intro esc; simp [strL]
  | cons c r ih =>
    intro esc
    have h1 := ih false
    have h2 := ih true
    simp only [strL, List.length_cons]
    repeat' split
    all_goals omega

theorem brL_le (l : List Int) : ∀ d s esc, brL d s esc l ≤ l.length := by
  induction l with
  | nil => intro d s esc; simp [brL]
  | cons c r ih =>
    intro d s esc
    cases s
    · simp only [brL, List.length_cons]
      have h1 := ih d true esc
      have h2 := ih (d + 1) false esc
      have h3 := ih (d - 1) false esc
      have h4 := ih d false esc
      repeat' split
      all_goals omega
    · simp only [brL, List.length_cons]
      have h1 := ih d true false
      have h2 := ih d true true
      have h3 := ih d false esc
      have h4 := ih d true esc
      repeat' split
      all_goals omega

theorem scL_le (l : List Int) : scL l ≤ l.length := by
  induction l with
  | nil => simp [scL]
  | cons c r ih =>
    simp only [scL, List.length_cons]
    split <;> omega

/-- A string inside brackets: over it, then on. -/
theorem brL_str (d : Int) (l : List Int) : ∀ esc, brL d true esc l = strL esc l + brL d false false (l.drop (strL esc l)) := by
  induction l with
  | nil => intro esc; simp [brL, strL]
  | cons c r ih =>
    intro esc
    simp only [brL, strL]
    cases esc
    · simp only [Bool.false_eq_true, if_false]
      split
      · rw [ih true, Nat.add_comm 1 (strL true r), List.drop_succ_cons]; omega
      · split
        · simp
        · rw [ih false, Nat.add_comm 1 (strL false r), List.drop_succ_cons]; omega
    · simp only [if_true]
      rw [ih false, Nat.add_comm 1 (strL false r), List.drop_succ_cons]; omega

theorem drop_at {zs : List Int} {k : Nat} (h : k < zs.length) : zs.drop k = zs.getD k 0 :: zs.drop (k + 1) := by
  rw [List.drop_eq_getElem_cons h]; simp [h]
theorem drop_end {zs : List Int} {k : Nat} (h : zs.length ≤ k) : zs.drop k = [] := List.drop_of_length_le h

theorem valE_ge (zs : List Int) (p : Nat) : p ≤ valE zs p := by
  unfold valE
  repeat' split
  all_goals omega
theorem valE_le {zs : List Int} {p : Nat} (h : p ≤ zs.length) : valE zs p ≤ zs.length := by
  unfold valE
  have h1 := strL_le (zs.drop (p + 1)) false
  have h2 := brL_le (zs.drop p) 0 false false
  have h3 := scL_le (zs.drop p)
  simp only [List.length_drop] at h1 h2 h3
  repeat' split
  all_goals omega
theorem valE_gt {zs : List Int} {p : Nat} (h : p < zs.length) (hs : stopB (zs.getD p 0) = false) : p < valE zs p := by
  unfold valE
  rw [if_pos h]
  split
  · omega
  · split
    · rename_i h1 h2
      rcases h2 with h2 | h2 <;> rw [h2] at hs <;> exact absurd hs (by decide)
    · rw [drop_at h, scL, hs]; simp only [Bool.false_eq_true, if_false]; omega

/-! One step of each, from position k on. -/
theorem str_quote {zs : List Int} {k : Nat} (h : k < zs.length) (e : zs.getD k 0 = 34) : strL false (zs.drop k) = 1 := by
  rw [drop_at h, strL]; simp only [e]; simp
theorem str_back {zs : List Int} {k : Nat} (h : k < zs.length) (e : zs.getD k 0 = 92) : strL false (zs.drop k) = 1 + strL true (zs.drop (k + 1)) := by
  rw [drop_at h, strL]; simp only [e]; simp
theorem str_esc {zs : List Int} {k : Nat} (h : k < zs.length) : strL true (zs.drop k) = 1 + strL false (zs.drop (k + 1)) := by
  rw [drop_at h, strL]; simp
theorem str_else {zs : List Int} {k : Nat} (h : k < zs.length) (e1 : ¬ zs.getD k 0 = 92) (e2 : ¬ zs.getD k 0 = 34) : strL false (zs.drop k) = 1 + strL false (zs.drop (k + 1)) := by
  rw [drop_at h, strL, if_neg (by simp), if_neg e1, if_neg e2]
theorem str_end {zs : List Int} {k : Nat} (h : zs.length ≤ k) (esc : Bool) : strL esc (zs.drop k) = 0 := by
  rw [drop_end h, strL]

/-- Where the reader of a string that stands at k will end. -/
def sAt (zs : List Int) (k : Nat) : Nat := if k ≤ zs.length then k + strL false (zs.drop k) else zs.length
theorem sAt_quote {zs : List Int} {k : Nat} (h : k < zs.length) (e : zs.getD k 0 = 34) : sAt zs k = k + 1 := by
  rw [sAt, if_pos (by omega), str_quote h e]
theorem sAt_back {zs : List Int} {k : Nat} (h : k < zs.length) (e : zs.getD k 0 = 92) : sAt zs k = sAt zs (k + 2) := by
  rw [sAt, if_pos (by omega), str_back h e, sAt]
  rcases Nat.lt_or_ge (k + 1) zs.length with h2 | h2
  · rw [if_pos (by omega), str_esc h2, show k + 1 + 1 = k + 2 from rfl]; omega
  · rw [if_neg (by omega), str_end h2]; omega
theorem sAt_else {zs : List Int} {k : Nat} (h : k < zs.length) (e1 : ¬ zs.getD k 0 = 92) (e2 : ¬ zs.getD k 0 = 34) : sAt zs k = sAt zs (k + 1) := by
  rw [sAt, if_pos (by omega), str_else h e1 e2, sAt, if_pos (by omega)]; omega
theorem sAt_end {zs : List Int} {k : Nat} (h : zs.length ≤ k) : sAt zs k = zs.length := by
  rw [sAt]; split
  · rw [str_end h]; omega
  · rfl
theorem sAt_le (zs : List Int) (k : Nat) : sAt zs k ≤ zs.length := by
  rw [sAt]; split
  · have := strL_le (zs.drop k) false; simp only [List.length_drop] at this; omega
  · omega
theorem sAt_ge {zs : List Int} {k : Nat} (h : k ≤ zs.length) : k ≤ sAt zs k := by
  rw [sAt, if_pos h]; omega

/-- Where the reader of brackets that stands at k, at depth d, will end. -/
def bAt (zs : List Int) (d : Int) (k : Nat) : Nat := k + brL d false false (zs.drop k)
theorem bAt_quote {zs : List Int} {k : Nat} {d : Int} (h : k < zs.length) (e : zs.getD k 0 = 34) : bAt zs d k = bAt zs d (sAt zs (k + 1)) := by
  rw [bAt, drop_at h, brL]; simp only [e, if_true]
  rw [brL_str, bAt, sAt, if_pos (by omega), List.drop_drop]; omega
theorem bAt_open {zs : List Int} {k : Nat} {d : Int} (h : k < zs.length) (e : zs.getD k 0 = 123 ∨ zs.getD k 0 = 91) : bAt zs d k = bAt zs (d + 1) (k + 1) := by
  rw [bAt, drop_at h, brL, if_neg (by omega), if_pos e, bAt]; omega
theorem bAt_close {zs : List Int} {k : Nat} {d : Int} (h : k < zs.length) (e : zs.getD k 0 = 125 ∨ zs.getD k 0 = 93) (hd : ¬ d - 1 = 0) : bAt zs d k = bAt zs (d - 1) (k + 1) := by
  rw [bAt, drop_at h, brL, if_neg (by omega), if_neg (by omega), if_pos e, if_neg hd, bAt]; omega
theorem bAt_last {zs : List Int} {k : Nat} {d : Int} (h : k < zs.length) (e : zs.getD k 0 = 125 ∨ zs.getD k 0 = 93) (hd : d - 1 = 0) : bAt zs d k = k + 1 := by
  rw [bAt, drop_at h, brL, if_neg (by omega), if_neg (by omega), if_pos e, if_pos hd]
theorem bAt_else {zs : List Int} {k : Nat} {d : Int} (h : k < zs.length) (e1 : ¬ zs.getD k 0 = 34) (e2 : ¬ (zs.getD k 0 = 123 ∨ zs.getD k 0 = 91)) (e3 : ¬ (zs.getD k 0 = 125 ∨ zs.getD k 0 = 93)) : bAt zs d k = bAt zs d (k + 1) := by
  rw [bAt, drop_at h, brL, if_neg e1, if_neg e2, if_neg e3, bAt]; omega
theorem bAt_end {zs : List Int} {k : Nat} {d : Int} (h : zs.length ≤ k) : bAt zs d k = k := by
  rw [bAt, drop_end h, brL]; rfl

/-- Where the reader of a scalar that stands at k will end. -/
def cAt (zs : List Int) (k : Nat) : Nat := k + scL (zs.drop k)
theorem cAt_stop {zs : List Int} {k : Nat} (h : k < zs.length) (e : stopB (zs.getD k 0) = true) : cAt zs k = k := by
  rw [cAt, drop_at h, scL, if_pos e]; rfl
theorem cAt_go {zs : List Int} {k : Nat} (h : k < zs.length) (e : stopB (zs.getD k 0) = false) : cAt zs k = cAt zs (k + 1) := by
  rw [cAt, drop_at h, scL, if_neg (by simp only [e]; decide), cAt]; omega
theorem cAt_end {zs : List Int} {k : Nat} (h : zs.length ≤ k) : cAt zs k = k := by
  rw [cAt, drop_end h, scL]; rfl

theorem valE_out {zs : List Int} {p : Nat} (h : zs.length ≤ p) : valE zs p = p := by rw [valE, if_neg (by omega)]
theorem valE_quote {zs : List Int} {p : Nat} (h : p < zs.length) (e : zs.getD p 0 = 34) : valE zs p = sAt zs (p + 1) := by
  rw [valE, if_pos h, if_pos e, sAt, if_pos (by omega)]
theorem valE_open {zs : List Int} {p : Nat} (h : p < zs.length) (e : zs.getD p 0 = 123 ∨ zs.getD p 0 = 91) : valE zs p = bAt zs 0 p := by
  rw [valE, if_pos h, if_neg (by omega), if_pos e, bAt]
theorem valE_scalar {zs : List Int} {p : Nat} (h : p < zs.length) (e1 : ¬ zs.getD p 0 = 34) (e2 : ¬ (zs.getD p 0 = 123 ∨ zs.getD p 0 = 91)) : valE zs p = cAt zs p := by
  rw [valE, if_pos h, if_neg e1, if_neg e2, cAt]
end Go.Proofs.YbulkaolaDoor
