import Derived.Test.YbulkaopwBits
import Derived.Deep.CutBlock
import Derived.Deep.DeepCutAuto
import Derived.Deep.LoopGhost
import Derived.Laws.Rows
namespace Go.Proofs.Ybulkaopw
open Go.ChangeShapes Go.WideShapes Go.ChangeAt Go.RowKit
set_option linter.unusedVariables false

theorem stepN (x y p c : Nat) (hx : x < 18446744073709551616) (hy : y < 18446744073709551616) (hp : p < 18446744073709551616) (hc : c < 18446744073709551616) : ∃ mh ml s1 k1 s2 k2 : Nat,
    x * y / 18446744073709551616 = mh ∧ x * y % 18446744073709551616 = ml ∧ ((ml : Int) + (p : Int)) % 18446744073709551616 = (s1 : Int) ∧ ((ml : Int) + (p : Int)) / 18446744073709551616 = (k1 : Int) ∧ ((s1 : Int) + (c : Int)) % 18446744073709551616 = (s2 : Int) ∧ ((s1 : Int) + (c : Int)) / 18446744073709551616 = (k2 : Int) ∧
    mh + k1 + k2 < 18446744073709551616 ∧ s2 < 18446744073709551616 ∧ Hid (s2 + (mh + k1 + k2) * 18446744073709551616 = x * y + p + c) := by
  have hm : x * y ≤ (18446744073709551615) * (18446744073709551615) := Nat.mul_le_mul (by omega) (by omega)
  generalize x * y = m at *
  have h : (m % 18446744073709551616 + p) % 18446744073709551616 + c ≤ m % 18446744073709551616 + p + c := by have := Nat.mod_le (m % 18446744073709551616 + p) 18446744073709551616; omega
  refine ⟨m / 18446744073709551616, m % 18446744073709551616, (m % 18446744073709551616 + p) % 18446744073709551616, (m % 18446744073709551616 + p) / 18446744073709551616, ((m % 18446744073709551616 + p) % 18446744073709551616 + c) % 18446744073709551616, ((m % 18446744073709551616 + p) % 18446744073709551616 + c) / 18446744073709551616, rfl, rfl, by omega, by omega, by omega, by omega, ?_, Nat.mod_lt _ (by decide), ?_⟩
  · omega
  · show _ = _
    omega

theorem ix0 (a b c : Value) (w : World) : Sem.run Yba.prog (Instr.index 55 (.agg #[a, b, c]) (.int .i64 0)) w = .ok a w := rfl
theorem ix1 (a b c : Value) (w : World) : Sem.run Yba.prog (Instr.index 55 (.agg #[a, b, c]) (.int .i64 1)) w = .ok b w := rfl
theorem ix2 (a b c : Value) (w : World) : Sem.run Yba.prog (Instr.index 55 (.agg #[a, b, c]) (.int .i64 2)) w = .ok c w := rfl
theorem iy0 (a b : Value) (w : World) : Sem.run Yba.prog (Instr.index 56 (.agg #[a, b]) (.int .i64 0)) w = .ok a w := rfl
theorem iy1 (a b : Value) (w : World) : Sem.run Yba.prog (Instr.index 56 (.agg #[a, b]) (.int .i64 1)) w = .ok b w := rfl

def tw (w : World) (hi mid lo uh ul q0 q1 q2 q3 q4 : Nat) : World := (((((w.alloc (.cells #[.int .u64 hi, .int .u64 mid, .int .u64 lo] 40)).alloc (.cells #[.int .u64 uh, .int .u64 ul] 36)).alloc
  (.cells #[.int .u64 0, .int .u64 0, .int .u64 0, .int .u64 0, .int .u64 0] 48)).alloc (.cells #[.int .u64 lo, .int .u64 mid, .int .u64 hi] 55)).alloc (.cells #[.int .u64 ul, .int .u64 uh] 56)).alloc
  (.cells #[.int .u64 q0, .int .u64 q1, .int .u64 q2, .int .u64 q3, .int .u64 q4] 48)

/-- One row of the product: x * (uh ul) onto the two words p p'. -/
def Row (x ul uh p p' a b c : Nat) : Prop := ∃ c1, a + c1 * 18446744073709551616 = x * ul + p ∧ b + c * 18446744073709551616 = x * uh + p' + c1

def St (hi mid lo uh ul : Nat) (i q0 q1 q2 q3 q4 : Nat) : Prop :=
  (i = 0 ∧ q0 = 0 ∧ q1 = 0 ∧ q2 = 0 ∧ q3 = 0 ∧ q4 = 0) ∨
  (i = 1 ∧ Row lo ul uh 0 0 q0 q1 q2 ∧ q3 = 0 ∧ q4 = 0) ∨
  (i = 2 ∧ (∃ a b, Row lo ul uh 0 0 q0 a b ∧ Row mid ul uh a b q1 q2 q3) ∧ q4 = 0) ∨
  (i = 3 ∧ ∃ a b c d, Row lo ul uh 0 0 q0 a b ∧ Row mid ul uh a b q1 c d ∧ Row hi ul uh c d q2 q3 q4)

def Small (q0 q1 q2 q3 q4 : Nat) : Prop := q0 < 18446744073709551616 ∧ q1 < 18446744073709551616 ∧ q2 < 18446744073709551616 ∧ q3 < 18446744073709551616 ∧ q4 < 18446744073709551616

theorem st0 {hi mid lo uh ul q0 q1 q2 q3 q4 a b c : Nat} (h : St hi mid lo uh ul 0 q0 q1 q2 q3 q4) (r : Row lo ul uh q0 q1 a b c) : St hi mid lo uh ul 1 a b c q3 q4 := by
  rcases h with ⟨_, h0, h1, h2, h3, h4⟩ | ⟨h, _⟩ | ⟨h, _⟩ | ⟨h, _⟩ <;> first | (cases h; done) | skip
  subst h0 h1 h2
  exact .inr (.inl ⟨rfl, r, h3, h4⟩)
theorem st1 {hi mid lo uh ul q0 q1 q2 q3 q4 a b c : Nat} (h : St hi mid lo uh ul 1 q0 q1 q2 q3 q4) (r : Row mid ul uh q1 q2 a b c) : St hi mid lo uh ul 2 q0 a b c q4 := by
  rcases h with ⟨h, _⟩ | ⟨_, h0, h3, h4⟩ | ⟨h, _⟩ | ⟨h, _⟩ <;> first | (cases h; done) | skip
  exact .inr (.inr (.inl ⟨rfl, ⟨_, _, h0, r⟩, h4⟩))
theorem st2 {hi mid lo uh ul q0 q1 q2 q3 q4 a b c : Nat} (h : St hi mid lo uh ul 2 q0 q1 q2 q3 q4) (r : Row hi ul uh q2 q3 a b c) : St hi mid lo uh ul 3 q0 q1 a b c := by
  rcases h with ⟨h, _⟩ | ⟨h, _⟩ | ⟨_, ⟨x, y, h0, h1⟩, h4⟩ | ⟨h, _⟩ <;> first | (cases h; done) | skip
  exact .inr (.inr (.inr ⟨rfl, _, _, _, _, h0, h1, r⟩))

theorem heap6 (w : World) (o1 o2 o3 o4 o5 o6 : Obj) : ((((((w.alloc o1).alloc o2).alloc o3).alloc o4).alloc o5).alloc o6).heap[w.heap.size + 1 + 1]? = some o3 := by
  show ((((((w.heap.push o1).push o2).push o3).push o4).push o5).push o6)[w.heap.size + 1 + 1]? = some o3
  simp [Array.getElem_push]

theorem below6 (w : World) (o1 o2 o3 o4 o5 o6 : Obj) : Below w.heap.size w ((((((w.alloc o1).alloc o2).alloc o3).alloc o4).alloc o5).alloc o6) := by
  have h0 := Below.refl w.heap.size w
  have s1 : (w.alloc o1).heap.size = w.heap.size + 1 := Array.size_push ..
  have s2 : ((w.alloc o1).alloc o2).heap.size = w.heap.size + 1 + 1 := by rw [← s1]; exact Array.size_push ..
  have s3 : (((w.alloc o1).alloc o2).alloc o3).heap.size = w.heap.size + 1 + 1 + 1 := by rw [← s2]; exact Array.size_push ..
  have s4 : ((((w.alloc o1).alloc o2).alloc o3).alloc o4).heap.size = w.heap.size + 1 + 1 + 1 + 1 := by rw [← s3]; exact Array.size_push ..
  have s5 : (((((w.alloc o1).alloc o2).alloc o3).alloc o4).alloc o5).heap.size = w.heap.size + 1 + 1 + 1 + 1 + 1 := by rw [← s4]; exact Array.size_push ..
  exact (((((h0.alloc (Nat.le_refl _) o1).alloc (by omega) o2).alloc (by omega) o3).alloc (by omega) o4).alloc (by omega) o5).alloc (by omega) o6

set_option maxHeartbeats 2000000 in
theorem tmul (hi mid lo uh ul : Nat) (b1 : hi < 18446744073709551616) (b2 : mid < 18446744073709551616) (b3 : lo < 18446744073709551616) (b4 : uh < 18446744073709551616) (b5 : ul < 18446744073709551616) (w : World) :
    Calls Yba.prog 11 #[.agg #[.int .u64 hi, .int .u64 mid, .int .u64 lo], .agg #[.int .u64 uh, .int .u64 ul]] w fun e w' => ∃ p0 p1 p2 p3 p4 : Nat, e = .returned (.agg #[.int .u64 p4, .int .u64 p3, .int .u64 p2, .int .u64 p1, .int .u64 p0]) ∧ Small p0 p1 p2 p3 p4 ∧ St hi mid lo uh ul 3 p0 p1 p2 p3 p4 ∧ Below w.heap.size w w' := by
  have ha := add64_0
  have hx0 := ix0
  have hx1 := ix1
  have hx2 := ix2
  have hy0 := iy0
  have hy1 := iy1
  go_enter Yba.func11, Yba.ntmps11
  go_wp2
  go_loopg [29] 3 (fun g s29 wr => ∃ i q0 q1 q2 q3 q4 : Nat, s29 = .int .i64 i ∧ i ≤ 3 ∧ g = 3 - i ∧ St hi mid lo uh ul i q0 q1 q2 q3 q4 ∧ Small q0 q1 q2 q3 q4 ∧ tw w hi mid lo uh ul q0 q1 q2 q3 q4 = wr)
  case atStart => exact ⟨0, 0, 0, 0, 0, 0, rfl, by omega, rfl, .inl ⟨rfl, rfl, rfl, rfl, rfl, rfl⟩, ⟨by decide, by decide, by decide, by decide, by decide⟩, rfl⟩
  case round =>
    obtain ⟨i, q0, q1, q2, q3, q4, rfl, hi3, rfl, hS, ⟨d0, d1, d2, d3, d4⟩, rfl⟩ := hrel
    rcases (show i = 0 ∨ i = 1 ∨ i = 2 ∨ i = 3 by omega) with rfl | rfl | rfl | rfl
    · have hS' := hidd hS
      clear hS
      unfold tw
      go_wp2_with fail
      go_loopg [10, 34] 2 (fun g s10 s34 wr => (g = 2 ∧ s10 = .int .u64 0 ∧ s34 = .int .i64 0 ∧ tw w hi mid lo uh ul q0 q1 q2 q3 q4 = wr) ∨
        (∃ a c : Nat, g = 1 ∧ s10 = .int .u64 c ∧ s34 = .int .i64 1 ∧ a < 18446744073709551616 ∧ c < 18446744073709551616 ∧ Hid (a + c * 18446744073709551616 = lo * ul + q0) ∧ tw w hi mid lo uh ul a q1 q2 q3 q4 = wr) ∨
        (∃ a b c c1 : Nat, g = 0 ∧ s10 = .int .u64 c ∧ s34 = .int .i64 2 ∧ a < 18446744073709551616 ∧ b < 18446744073709551616 ∧ c < 18446744073709551616 ∧ Hid (a + c1 * 18446744073709551616 = lo * ul + q0 ∧ b + c * 18446744073709551616 = lo * uh + q1 + c1) ∧ tw w hi mid lo uh ul a b q2 q3 q4 = wr))
      case atStart => exact .inl ⟨rfl, rfl, rfl, rfl⟩
      case round =>
        rcases hrel with ⟨rfl, rfl, rfl, rfl⟩ | ⟨a, c, rfl, rfl, rfl, ka, kc, hac, rfl⟩ | ⟨a, b, c, c1, rfl, rfl, rfl, ka, kb, kc, hac, rfl⟩
        · unfold tw
          obtain ⟨mh, ml, s1, k1, s2, k2, e1, e2, e3, e4, e5, e6, z1, z2, hz⟩ := stepN lo ul q0 0 (by assumption) b5 (by assumption) (by decide)
          have e5' : (s1 : Int) % 18446744073709551616 = (s2 : Int) := by have := e5; omega
          have e6' : (s1 : Int) / 18446744073709551616 = (k2 : Int) := by have := e6; omega
          clear e5 e6
          go_wp2_with (go_at_call 13; refine (mul64 _ _ (by assumption) (by assumption) _).mono ?_; rintro e w' ⟨rfl, rfl⟩)
          go_roundg 1
          case measure => omega
          case rel => exact .inr (.inl ⟨s2, mh + k1 + k2, rfl, rfl, rfl, z2, z1, hidd (by have := hz.out; omega), rfl⟩)
        · unfold tw
          obtain ⟨mh, ml, s1, k1, s2, k2, e1, e2, e3, e4, e5, e6, z1, z2, hz⟩ := stepN lo uh q1 c (by assumption) b4 (by assumption) (by assumption)
          go_wp2_with (go_at_call 13; refine (mul64 _ _ (by assumption) (by assumption) _).mono ?_; rintro e w' ⟨rfl, rfl⟩)
          go_roundg 0
          case measure => omega
          case rel => exact .inr (.inr ⟨a, s2, mh + k1 + k2, c, rfl, rfl, rfl, ka, z2, z1, hidd ⟨hac.out, hz.out⟩, rfl⟩)
        · unfold tw
          go_wp2_with fail
          go_roundg 2
          case measure => omega
          case rel =>
            refine ⟨1, a, b, c, q3, q4, rfl, by omega, rfl, ?_, ⟨by assumption, by assumption, by assumption, by assumption, by assumption⟩, rfl⟩
            have hR : Row lo ul uh q0 q1 a b c := ⟨c1, hac.out⟩
            clear hac
            exact st0 hS'.out hR
    · have hS' := hidd hS
      clear hS
      unfold tw
      go_wp2_with fail
      go_loopg [10, 34] 2 (fun g s10 s34 wr => (g = 2 ∧ s10 = .int .u64 0 ∧ s34 = .int .i64 0 ∧ tw w hi mid lo uh ul q0 q1 q2 q3 q4 = wr) ∨
        (∃ a c : Nat, g = 1 ∧ s10 = .int .u64 c ∧ s34 = .int .i64 1 ∧ a < 18446744073709551616 ∧ c < 18446744073709551616 ∧ Hid (a + c * 18446744073709551616 = mid * ul + q1) ∧ tw w hi mid lo uh ul q0 a q2 q3 q4 = wr) ∨
        (∃ a b c c1 : Nat, g = 0 ∧ s10 = .int .u64 c ∧ s34 = .int .i64 2 ∧ a < 18446744073709551616 ∧ b < 18446744073709551616 ∧ c < 18446744073709551616 ∧ Hid (a + c1 * 18446744073709551616 = mid * ul + q1 ∧ b + c * 18446744073709551616 = mid * uh + q2 + c1) ∧ tw w hi mid lo uh ul q0 a b q3 q4 = wr))
      case atStart => exact .inl ⟨rfl, rfl, rfl, rfl⟩
      case round =>
        rcases hrel with ⟨rfl, rfl, rfl, rfl⟩ | ⟨a, c, rfl, rfl, rfl, ka, kc, hac, rfl⟩ | ⟨a, b, c, c1, rfl, rfl, rfl, ka, kb, kc, hac, rfl⟩
        · unfold tw
          obtain ⟨mh, ml, s1, k1, s2, k2, e1, e2, e3, e4, e5, e6, z1, z2, hz⟩ := stepN mid ul q1 0 (by assumption) b5 (by assumption) (by decide)
          have e5' : (s1 : Int) % 18446744073709551616 = (s2 : Int) := by have := e5; omega
          have e6' : (s1 : Int) / 18446744073709551616 = (k2 : Int) := by have := e6; omega
          clear e5 e6
          go_wp2_with (go_at_call 13; refine (mul64 _ _ (by assumption) (by assumption) _).mono ?_; rintro e w' ⟨rfl, rfl⟩)
          go_roundg 1
          case measure => omega
          case rel => exact .inr (.inl ⟨s2, mh + k1 + k2, rfl, rfl, rfl, z2, z1, hidd (by have := hz.out; omega), rfl⟩)
        · unfold tw
          obtain ⟨mh, ml, s1, k1, s2, k2, e1, e2, e3, e4, e5, e6, z1, z2, hz⟩ := stepN mid uh q2 c (by assumption) b4 (by assumption) (by assumption)
          go_wp2_with (go_at_call 13; refine (mul64 _ _ (by assumption) (by assumption) _).mono ?_; rintro e w' ⟨rfl, rfl⟩)
          go_roundg 0
          case measure => omega
          case rel => exact .inr (.inr ⟨a, s2, mh + k1 + k2, c, rfl, rfl, rfl, ka, z2, z1, hidd ⟨hac.out, hz.out⟩, rfl⟩)
        · unfold tw
          go_wp2_with fail
          go_roundg 1
          case measure => omega
          case rel =>
            refine ⟨2, q0, a, b, c, q4, rfl, by omega, rfl, ?_, ⟨by assumption, by assumption, by assumption, by assumption, by assumption⟩, rfl⟩
            have hR : Row mid ul uh q1 q2 a b c := ⟨c1, hac.out⟩
            clear hac
            exact st1 hS'.out hR
    · have hS' := hidd hS
      clear hS
      unfold tw
      go_wp2_with fail
      go_loopg [10, 34] 2 (fun g s10 s34 wr => (g = 2 ∧ s10 = .int .u64 0 ∧ s34 = .int .i64 0 ∧ tw w hi mid lo uh ul q0 q1 q2 q3 q4 = wr) ∨
        (∃ a c : Nat, g = 1 ∧ s10 = .int .u64 c ∧ s34 = .int .i64 1 ∧ a < 18446744073709551616 ∧ c < 18446744073709551616 ∧ Hid (a + c * 18446744073709551616 = hi * ul + q2) ∧ tw w hi mid lo uh ul q0 q1 a q3 q4 = wr) ∨
        (∃ a b c c1 : Nat, g = 0 ∧ s10 = .int .u64 c ∧ s34 = .int .i64 2 ∧ a < 18446744073709551616 ∧ b < 18446744073709551616 ∧ c < 18446744073709551616 ∧ Hid (a + c1 * 18446744073709551616 = hi * ul + q2 ∧ b + c * 18446744073709551616 = hi * uh + q3 + c1) ∧ tw w hi mid lo uh ul q0 q1 a b q4 = wr))
      case atStart => exact .inl ⟨rfl, rfl, rfl, rfl⟩
      case round =>
        rcases hrel with ⟨rfl, rfl, rfl, rfl⟩ | ⟨a, c, rfl, rfl, rfl, ka, kc, hac, rfl⟩ | ⟨a, b, c, c1, rfl, rfl, rfl, ka, kb, kc, hac, rfl⟩
        · unfold tw
          obtain ⟨mh, ml, s1, k1, s2, k2, e1, e2, e3, e4, e5, e6, z1, z2, hz⟩ := stepN hi ul q2 0 (by assumption) b5 (by assumption) (by decide)
          have e5' : (s1 : Int) % 18446744073709551616 = (s2 : Int) := by have := e5; omega
          have e6' : (s1 : Int) / 18446744073709551616 = (k2 : Int) := by have := e6; omega
          clear e5 e6
          go_wp2_with (go_at_call 13; refine (mul64 _ _ (by assumption) (by assumption) _).mono ?_; rintro e w' ⟨rfl, rfl⟩)
          go_roundg 1
          case measure => omega
          case rel => exact .inr (.inl ⟨s2, mh + k1 + k2, rfl, rfl, rfl, z2, z1, hidd (by have := hz.out; omega), rfl⟩)
        · unfold tw
          obtain ⟨mh, ml, s1, k1, s2, k2, e1, e2, e3, e4, e5, e6, z1, z2, hz⟩ := stepN hi uh q3 c (by assumption) b4 (by assumption) (by assumption)
          go_wp2_with (go_at_call 13; refine (mul64 _ _ (by assumption) (by assumption) _).mono ?_; rintro e w' ⟨rfl, rfl⟩)
          go_roundg 0
          case measure => omega
          case rel => exact .inr (.inr ⟨a, s2, mh + k1 + k2, c, rfl, rfl, rfl, ka, z2, z1, hidd ⟨hac.out, hz.out⟩, rfl⟩)
        · unfold tw
          go_wp2_with fail
          go_roundg 0
          case measure => omega
          case rel =>
            refine ⟨3, q0, q1, a, b, c, rfl, by omega, rfl, ?_, ⟨by assumption, by assumption, by assumption, by assumption, by assumption⟩, rfl⟩
            have hR : Row hi ul uh q2 q3 a b c := ⟨c1, hac.out⟩
            clear hac
            exact st2 hS'.out hR
    · unfold tw
      go_wp2_with fail
      refine bodyPost_ret (v := .agg #[.int .u64 q4, .int .u64 q3, .int .u64 q2, .int .u64 q1, .int .u64 q0]) ?_ rfl ⟨q0, q1, q2, q3, q4, rfl, ⟨d0, d1, d2, d3, d4⟩, hS, ?_⟩
      · exact results_cell_row rfl _ _ (w.heap.size + 1 + 1) 48 _ _ (.array 5 34) rfl (heap6 _ _ _ _ _ _ _) (by kernel_rfl) rfl (by kernel_rfl)
      · exact below6 _ _ _ _ _ _ _
end Go.Proofs.Ybulkaopw
