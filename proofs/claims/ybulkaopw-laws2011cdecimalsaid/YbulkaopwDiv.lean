import Derived.Test.YbulkaopwBits
import Derived.Deep.CutBlock
import Derived.Deep.DeepCutAuto
import Derived.Deep.LoopGhost
namespace Go.Proofs.Ybulkaopw
open Go.ChangeShapes Go.WideShapes Go.ChangeAt Go.RowKit
set_option linter.unusedVariables false

theorem lz64_y (y : Int) (hy : Hid (y = 1000000000000000000)) (w : World) : Calls Yba.prog 15 #[.int .u64 y] w fun e w' => e = .returned (.int .i64 4) ∧ w' = w := by
  rw [hy.out]; exact lz64_e18 w

set_option maxRecDepth 100000 in
set_option maxHeartbeats 2000000 in
theorem div64_big (hi lo y un32 un10 un1 un0 Q1 un21 Q0 R : Int) (hy : Hid (y = 1000000000000000000)) (h0 : 1 ≤ hi) (h1 : hi < y) (l0 : 0 ≤ lo) (l1 : lo ≤ 18446744073709551615)
    (e3 : bits .or .u64 (hi * 16) (lo / 1152921504606846976) = un32) (e4 : IntKind.u64.wrap (lo * 16) = un10) (e5 : un10 / 4294967296 = un1) (e6 : bits .and .u64 un10 4294967295 = un0)
    (b3 : 0 ≤ un32) (b3' : un32 ≤ 15999999999999999999) (b4 : 0 ≤ un10) (b4' : un10 ≤ 18446744073709551615) (b5 : 0 ≤ un1) (b5' : un1 ≤ 4294967295) (b6 : 0 ≤ un0) (b6' : un0 ≤ 4294967295)
    (bq : 0 ≤ Q1) (bq' : Q1 ≤ 4294967295) (kq : Hid (Q1 * 16000000000000000000 ≤ un32 * 4294967296 + un1 ∧ un32 * 4294967296 + un1 < Q1 * 16000000000000000000 + 16000000000000000000))
    (e7 : IntKind.u64.wrap (IntKind.u64.wrap (IntKind.u64.wrap (un32 * 4294967296) + un1) - IntKind.u64.wrap (Q1 * (y * 16))) = un21) (b7 : 0 ≤ un21) (b7' : un21 ≤ 15999999999999999999)
    (bp : 0 ≤ Q0) (bp' : Q0 ≤ 4294967295) (kp : Hid (Q0 * 16000000000000000000 ≤ un21 * 4294967296 + un0 ∧ un21 * 4294967296 + un0 < Q0 * 16000000000000000000 + 16000000000000000000))
    (e8 : IntKind.u64.wrap (IntKind.u64.wrap (IntKind.u64.wrap (un21 * 4294967296) + un0) - IntKind.u64.wrap (Q0 * (y * 16))) = R) (b8 : 0 ≤ R) (b8' : R ≤ 15999999999999999999) (w : World) :
    Calls Yba.prog 12 #[.int .u64 hi, .int .u64 lo, .int .u64 y] w fun e w' => e = .returned (.tuple #[.int .u64 (Q1 * 4294967296 + Q0), .int .u64 (R / 16)]) ∧ ∃ q, w' = w.drewN q := by
  have q1 : (y == 0) = false := beq_eq_false_iff_ne.2 (by omega)
  have q2 : (hi == 0) = false := beq_eq_false_iff_ne.2 (by omega)
  have q3 : decide (y ≤ hi) = false := decide_eq_false (by omega)
  have q4 : y ≤ 1000000000000000000 := by have := hy.out; omega
  have q5 : 536870912 ≤ y := by have := hy.out; omega
  have e1 : y * 16 / 4294967296 = 3725290298 := by rw [hy.out]; rfl
  have e2 : bits .and .u64 (y * 16) 4294967295 = 1983905792 := by rw [hy.out]; kernel_rfl
  go_enter Yba.func12, Yba.ntmps12
  go_upto_block 0 with (go_at_call 15; refine (lz64_y y hy _).mono ?_; rintro e w1 ⟨rfl, rfl⟩)
  go_cut [15, 16] (fun a r wx => a = .int .u64 Q1 ∧ w1 = wx)
  case first =>
    go_wp2_with fail
    go_loopg [15, 16] ((un32 / 3725290298 - Q1).toNat) (fun g a r wx => w1 = wx ∧ ∃ q rr : Int, a = .int .u64 q ∧ r = .int .u64 rr ∧ 0 ≤ rr ∧ rr < 4294967296 ∧ Hid (un32 = q * 3725290298 + rr) ∧ Q1 ≤ q ∧ q ≤ 4294967296 ∧ g = (q - Q1).toNat)
    case atStart =>
      have := kq.out
      exact ⟨rfl, _, _, rfl, rfl, by omega, by omega, hidd (by omega), by omega, by omega, rfl⟩
    case round =>
      obtain ⟨rfl, q, rr, rfl, rfl, r0, r1, hq, hq0, hq1, rfl⟩ := hrel
      by_cases hA : 4294967296 ≤ q
      · have hC : 4294967296 ≤ rr + 3725290298 ∨ rr + 3725290298 < 4294967296 := by omega
        rcases hC with hC | hC
        · go_wp2
          go_meet
          case rel => exact ⟨by congr 1; have := kq.out; have := hq.out; omega, rfl⟩
        · go_wp2
          go_roundg ((q - 1 - Q1).toNat)
          case measure => omega
          case rel => exact ⟨rfl, q - 1, rr + 3725290298, rfl, rfl, by omega, by omega, hidd (by have := hq.out; omega), by omega, by omega, rfl⟩
      · by_cases hB : 4294967296 * rr + un1 < q * 1983905792
        · have hC : 4294967296 ≤ rr + 3725290298 ∨ rr + 3725290298 < 4294967296 := by omega
          have hq2 : Q1 + 1 ≤ q := by have := kq.out; have := hq.out; omega
          rcases hC with hC | hC
          · go_wp2
            go_meet
            case rel => exact ⟨by congr 1; have := kq.out; have := hq.out; omega, rfl⟩
          · go_wp2
            go_roundg ((q - 1 - Q1).toNat)
            case measure => omega
            case rel => exact ⟨rfl, q - 1, rr + 3725290298, rfl, rfl, by omega, by omega, hidd (by have := hq.out; omega), by omega, by omega, rfl⟩
        · go_wp2
          go_meet
          case rel => exact ⟨by congr 1; have := kq.out; have := hq.out; omega, rfl⟩
  case rest =>
    obtain ⟨rfl, rfl⟩ := hcut
    go_upto_block 2 with fail
    go_cut [16, 18] (fun a r wx => r = .int .u64 Q0 ∧ w1 = wx)
    case first =>
      go_wp2_with fail
      go_loopg [16, 18] ((un21 / 3725290298 - Q0).toNat) (fun g r a wx => w1 = wx ∧ ∃ q rr : Int, a = .int .u64 q ∧ r = .int .u64 rr ∧ 0 ≤ rr ∧ rr < 4294967296 ∧ Hid (un21 = q * 3725290298 + rr) ∧ Q0 ≤ q ∧ q ≤ 4294967296 ∧ g = (q - Q0).toNat)
      case atStart =>
        have := kp.out
        exact ⟨rfl, _, _, rfl, rfl, by omega, by omega, hidd (by omega), by omega, by omega, rfl⟩
      case round =>
        obtain ⟨rfl, q, rr, rfl, rfl, r0, r1, hq, hq0, hq1, rfl⟩ := hrel
        by_cases hA : 4294967296 ≤ q
        · have hC : 4294967296 ≤ rr + 3725290298 ∨ rr + 3725290298 < 4294967296 := by omega
          rcases hC with hC | hC
          · go_wp2
            go_meet
            case rel => exact ⟨by congr 1; have := kp.out; have := hq.out; omega, rfl⟩
          · go_wp2
            go_roundg ((q - 1 - Q0).toNat)
            case measure => omega
            case rel => exact ⟨rfl, q - 1, rr + 3725290298, rfl, rfl, by omega, by omega, hidd (by have := hq.out; omega), by omega, by omega, rfl⟩
        · by_cases hB : 4294967296 * rr + un0 < q * 1983905792
          · have hC : 4294967296 ≤ rr + 3725290298 ∨ rr + 3725290298 < 4294967296 := by omega
            have hq2 : Q0 + 1 ≤ q := by have := kp.out; have := hq.out; omega
            rcases hC with hC | hC
            · go_wp2
              go_meet
              case rel => exact ⟨by congr 1; have := kp.out; have := hq.out; omega, rfl⟩
            · go_wp2
              go_roundg ((q - 1 - Q0).toNat)
              case measure => omega
              case rel => exact ⟨rfl, q - 1, rr + 3725290298, rfl, rfl, by omega, by omega, hidd (by have := hq.out; omega), by omega, by omega, rfl⟩
          · go_wp2
            go_meet
            case rel => exact ⟨by congr 1; have := kp.out; have := hq.out; omega, rfl⟩
    case rest =>
      obtain ⟨rfl, rfl⟩ := hcut
      go_wp2
      go_ret2
      exact ⟨rfl, 0, rfl⟩

theorem div64_small (lo : Nat) (hlo : lo < 18446744073709551616) (w : World) :
    Calls Yba.prog 12 #[.int .u64 0, .int .u64 lo, .int .u64 1000000000000000000] w fun e w' => e = .returned (.tuple #[.int .u64 ((lo / 1000000000000000000 : Nat) : Int), .int .u64 ((lo % 1000000000000000000 : Nat) : Int)]) ∧ ∃ q, w' = w.drewN q := by
  have b1 : (lo : Int) ≤ 18446744073709551615 := by omega
  go_enter Yba.func12, Yba.ntmps12
  go_wp2
  go_quiet (fail)
  go_wp2
  go_ret2
  exact ⟨by simp, _, rfl⟩

theorem or16 (hi lo : Nat) (hhi : hi < 1000000000000000000) (hlo : lo < 18446744073709551616) : bits .or .u64 ((hi : Int) * 16) ((lo : Int) / 1152921504606846976) = ((hi * 16 + lo / 1152921504606846976 : Nat) : Int) := by
  have e : ((hi : Int) * 16) = ((hi * 16 : Nat) : Int) := by omega
  have e' : ((lo : Int) / 1152921504606846976) = ((lo / 1152921504606846976 : Nat) : Int) := by omega
  rw [e, e', bits_or_u64_nat _ _ (by omega) (by omega)]
  have h : hi * 16 = 2 ^ 4 * hi := by omega
  rw [h, Nat.two_pow_add_eq_or_of_lt (i := 4) (by omega)]

theorem wrap3 (a b c r : Int) (h : a + b - c = r) (r0 : 0 ≤ r) (r1 : r < 18446744073709551616) : IntKind.u64.wrap (IntKind.u64.wrap (IntKind.u64.wrap a + b) - IntKind.u64.wrap c) = r := by
  simp only [IntKind.wrap_u64]
  rw [Int.emod_add_emod, ← Int.sub_emod, h]
  exact Int.emod_eq_of_lt r0 r1

theorem divTail (H Q R : Nat) (k : H * 16 = Q * 16000000000000000000 + R) (kR : R < 16000000000000000000) : H / 1000000000000000000 = Q ∧ H % 1000000000000000000 = R / 16 := by
  constructor <;> omega

set_option maxHeartbeats 1000000 in
/-- math/bits.Div64 by 10^18. -/
theorem div64 (hi lo : Nat) (hhi : hi < 1000000000000000000) (hlo : lo < 18446744073709551616) (w : World) :
    Calls Yba.prog 12 #[.int .u64 hi, .int .u64 lo, .int .u64 1000000000000000000] w fun e w' => e = .returned (.tuple #[.int .u64 (((hi * 18446744073709551616 + lo) / 1000000000000000000 : Nat) : Int), .int .u64 (((hi * 18446744073709551616 + lo) % 1000000000000000000 : Nat) : Int)]) ∧ ∃ q, w' = w.drewN q := by
  by_cases h0 : hi = 0
  · subst h0
    simpa using div64_small lo hlo w
  · have o := or16 hi lo hhi hlo
    obtain ⟨un32, h32⟩ : ∃ x : Nat, x = hi * 16 + lo / 1152921504606846976 := ⟨_, rfl⟩
    rw [← h32] at o
    obtain ⟨un10, h10⟩ : ∃ x : Nat, x = lo * 16 % 18446744073709551616 := ⟨_, rfl⟩
    have m := Mul64.maskN un10 (by omega)
    obtain ⟨un1, h1⟩ : ∃ x : Nat, x = un10 / 4294967296 := ⟨_, rfl⟩
    obtain ⟨un0, h00⟩ : ∃ x : Nat, x = un10 % 4294967296 := ⟨_, rfl⟩
    rw [← h00] at m
    obtain ⟨Q1, hQ1⟩ : ∃ x : Nat, x = (un32 * 4294967296 + un1) / 16000000000000000000 := ⟨_, rfl⟩
    obtain ⟨un21, h21⟩ : ∃ x : Nat, x = (un32 * 4294967296 + un1) % 16000000000000000000 := ⟨_, rfl⟩
    obtain ⟨Q0, hQ0⟩ : ∃ x : Nat, x = (un21 * 4294967296 + un0) / 16000000000000000000 := ⟨_, rfl⟩
    obtain ⟨R, hR⟩ : ∃ x : Nat, x = (un21 * 4294967296 + un0) % 16000000000000000000 := ⟨_, rfl⟩
    have k1 : Q1 * 16000000000000000000 + un21 = un32 * 4294967296 + un1 := by rw [hQ1, h21, Nat.mul_comm]; exact Nat.div_add_mod _ _
    have k2 : Q0 * 16000000000000000000 + R = un21 * 4294967296 + un0 := by rw [hQ0, hR, Nat.mul_comm]; exact Nat.div_add_mod _ _
    have k21 : un21 < 16000000000000000000 := by rw [h21]; exact Nat.mod_lt _ (by decide)
    have kR : R < 16000000000000000000 := by rw [hR]; exact Nat.mod_lt _ (by decide)
    clear hQ1 h21 hQ0 hR
    have k32 : un32 < 16000000000000000000 := by clear k1 k2 k21 kR; omega
    have k3 : un32 * 18446744073709551616 + un10 = (hi * 18446744073709551616 + lo) * 16 := by clear k1 k2 k21 kR k32; omega
    have k4 : un10 = un1 * 4294967296 + un0 := by clear k1 k2 k21 kR k32 k3; omega
    have k5 : un10 < 18446744073709551616 := by omega
    have k6 : un1 < 4294967296 := by clear k1 k2 k21 kR k32 k3 k4; omega
    have k7 : un0 < 4294967296 := by clear k1 k2 k21 kR k32 k3 k4; omega
    have w10 : IntKind.u64.wrap ((lo : Int) * 16) = (un10 : Int) := by rw [IntKind.wrap_u64]; clear k1 k2 k21 kR k32 k3 k4; omega
    have w1' : (un10 : Int) / 4294967296 = (un1 : Int) := by clear k1 k2 k21 kR k32 k3; omega
    clear h32 h10 h1 h00
    have kQ1 : Q1 < 4294967296 := by clear k2 k3 k4; omega
    have kQ0 : Q0 < 4294967296 := by clear k1 k3 k4; omega
    have c21 : IntKind.u64.wrap (IntKind.u64.wrap (IntKind.u64.wrap ((un32 : Int) * 4294967296) + un1) - IntKind.u64.wrap ((Q1 : Int) * (1000000000000000000 * 16))) = (un21 : Int) := by
      refine wrap3 _ _ _ _ ?_ (Int.natCast_nonneg _) ?_
      · clear k2 k3 k4 w10 w1' o m; omega
      · clear k1 k2 k3 k4 w10 w1' o m; omega
    have cR : IntKind.u64.wrap (IntKind.u64.wrap (IntKind.u64.wrap ((un21 : Int) * 4294967296) + un0) - IntKind.u64.wrap ((Q0 : Int) * (1000000000000000000 * 16))) = (R : Int) := by
      refine wrap3 _ _ _ _ ?_ (Int.natCast_nonneg _) ?_
      · clear k1 k3 k4 w10 w1' o m c21; omega
      · clear k1 k2 k3 k4 w10 w1' o m c21; omega
    have z1 : (Q1 : Int) * 16000000000000000000 ≤ (un32 : Int) * 4294967296 + un1 := by clear k2 k3 k4 w10 w1' o m c21 cR; omega
    have z2 : (un32 : Int) * 4294967296 + un1 < (Q1 : Int) * 16000000000000000000 + 16000000000000000000 := by clear k2 k3 k4 w10 w1' o m c21 cR; omega
    have z3 : (Q0 : Int) * 16000000000000000000 ≤ (un21 : Int) * 4294967296 + un0 := by clear k1 k3 k4 w10 w1' o m c21 cR; omega
    have z4 : (un21 : Int) * 4294967296 + un0 < (Q0 : Int) * 16000000000000000000 + 16000000000000000000 := by clear k1 k3 k4 w10 w1' o m c21 cR; omega
    have p1 : 1 ≤ (hi : Int) := by clear k1 k2 k3 k4 w10 w1' o m c21 cR; omega
    have p2 : (hi : Int) < 1000000000000000000 := by clear k1 k2 k3 k4 w10 w1' o m c21 cR; omega
    have p3 : (lo : Int) ≤ 18446744073709551615 := by clear k1 k2 k3 k4 w10 w1' o m c21 cR; omega
    have p4 : (un32 : Int) ≤ 15999999999999999999 := by clear k1 k2 k3 k4 w10 w1' o m c21 cR; omega
    have p5 : (un10 : Int) ≤ 18446744073709551615 := by clear k1 k2 k3 k4 w10 w1' o m c21 cR; omega
    have p6 : (un1 : Int) ≤ 4294967295 := by clear k1 k2 k3 k4 w10 w1' o m c21 cR; omega
    have p7 : (un0 : Int) ≤ 4294967295 := by clear k1 k2 k3 k4 w10 w1' o m c21 cR; omega
    have p8 : (Q1 : Int) ≤ 4294967295 := by clear k1 k2 k3 k4 w10 w1' o m c21 cR; omega
    have p9 : (Q0 : Int) ≤ 4294967295 := by clear k1 k2 k3 k4 w10 w1' o m c21 cR; omega
    have p10 : (un21 : Int) ≤ 15999999999999999999 := by clear k1 k2 k3 k4 w10 w1' o m c21 cR; omega
    have p11 : (R : Int) ≤ 15999999999999999999 := by clear k1 k2 k3 k4 w10 w1' o m c21 cR; omega
    have k8 : (hi * 18446744073709551616 + lo) * 16 = (Q1 * 4294967296 + Q0) * 16000000000000000000 + R := by clear w10 w1' o m c21 cR z1 z2 z3 z4; omega
    refine (div64_big hi lo 1000000000000000000 un32 un10 un1 un0 Q1 un21 Q0 R
      (hidd rfl) p1 p2 (Int.natCast_nonneg _) p3 o w10 w1' m (Int.natCast_nonneg _) p4 (Int.natCast_nonneg _) p5 (Int.natCast_nonneg _) p6 (Int.natCast_nonneg _) p7
      (Int.natCast_nonneg _) p8 (hidd ⟨z1, z2⟩) c21 (Int.natCast_nonneg _) p10 (Int.natCast_nonneg _) p9 (hidd ⟨z3, z4⟩) cR (Int.natCast_nonneg _) p11 w).mono ?_
    rintro e w' ⟨rfl, hw⟩
    refine ⟨?_, hw⟩
    obtain ⟨a1, a2⟩ := divTail _ _ _ k8 kR
    rw [a1, a2]
    have c1 : ((Q1 * 4294967296 + Q0 : Nat) : Int) = (Q1 : Int) * 4294967296 + Q0 := rfl
    have c2 : ((R / 16 : Nat) : Int) = (R : Int) / 16 := rfl
    rw [c1, c2]
end Go.Proofs.Ybulkaopw
