import Derived.Test.YbulkaopwPlain4
namespace Go.Proofs.Ybulkaopw
set_option linter.unusedVariables false

theorem DS.get {N : Nat} {es : List Nat} (h : DS N es 108) (p : Nat) (hp : p < 108) : es.getD p 0 = 48 + dig N (107 - p) := by
  have := h.at' (107 - p) (by omega)
  rwa [if_pos (by omega), show 107 - (107 - p) = p by omega] at this

theorem take_snoc (es : List Nat) (f c : Nat) (h : f + c < es.length) : (es.drop f).take (c + 1) = (es.drop f).take c ++ [es.getD (f + c) 0] := by
  rw [List.take_add_one]
  simp [List.getElem?_drop, h]

theorem txtA {N sc f : Nat} {es : List Nat} (h : DS N es 108) (hf : f + sc < 108) (c : Nat) (hc : c ≤ 108 - f - sc) : txt sc (108 - f) (dig N) c = (es.drop f).take c := by
  induction c with
  | zero => simp [txt]
  | succ c ih =>
    rw [txt_plain (by omega), ih (by omega), take_snoc _ _ _ (by rw [h.len]; omega), h.get _ (by omega), show 107 - (f + c) = 108 - f - 1 - c by omega]

theorem txtB {N sc f : Nat} {es : List Nat} (h : DS N es 108) (h0 : 0 < sc) (hf : f + sc < 108) (e : Nat) (he : e + 1 ≤ sc) :
    txt sc (108 - f) (dig N) (108 - f - sc + (e + 1)) = (es.drop f).take (108 - f - sc) ++ [46] ++ (es.drop (108 - sc)).take (e + 1) := by
  induction e with
  | zero =>
    rw [← Nat.add_assoc, Nat.add_zero, txt_dot h0 (by omega), txtA h hf _ (Nat.le_refl _), take_snoc _ _ _ (by rw [h.len]; omega), List.take_zero, List.nil_append, h.get _ (by omega)]
    rw [show 108 - f - 1 - (108 - f - sc) = 107 - (108 - sc + 0) by omega]
  | succ e ih =>
    rw [← Nat.add_assoc, txt_plain (by omega), ih (by omega), take_snoc es (108 - sc) (e + 1) (by rw [h.len]; omega), h.get (108 - sc + (e + 1)) (by omega)]
    rw [show 107 - (108 - sc + (e + 1)) = 108 - f - 1 - (108 - f - sc + (e + 1)) by omega]
    simp only [List.append_assoc]

theorem txt_all0 {N f : Nat} {es : List Nat} (h : DS N es 108) (hf : f < 108) : txt 0 (108 - f) (dig N) (108 - f) = (es.drop f).take (108 - f) := txtA h (by omega) _ (by omega)

theorem txt_all {N sc f : Nat} {es : List Nat} (h : DS N es 108) (h0 : 0 < sc) (hf : f + sc < 108) : txt sc (108 - f) (dig N) (108 - f) = (es.drop f).take (108 - f - sc) ++ [46] ++ (es.drop (108 - sc)).take sc := by
  have := txtB h h0 hf (sc - 1) (by omega)
  rw [show sc - 1 + 1 = sc by omega, show 108 - f - sc + sc = 108 - f by omega] at this
  exact this

theorem DS.lok {N sc f : Nat} {es : List Nat} (h : DS N es 108) (hN : N < 10 ^ 108) (hf : f + sc < 108) (hz : ∀ p, p < f → es.getD p 0 = 48) (ht : f + 1 = 108 - sc ∨ es.getD f 0 ≠ 48) : LOK N sc (108 - f) := by
  refine ⟨by omega, fun k hk => ?_, ?_⟩
  · by_cases hk' : k < 108
    · have h1 := hz (107 - k) (by omega)
      rw [h.get _ (by omega), show 107 - (107 - k) = k by omega] at h1
      omega
    · exact dig_zero N 108 k (Nat.div_eq_of_lt hN) (by omega)
  · rcases ht with ht | ht
    · exact .inl (by omega)
    · right
      rw [h.get _ (by omega)] at ht
      rw [show 108 - f - 1 = 107 - f by omega]
      omega

end Go.Proofs.Ybulkaopw
