import Derived.Test.YbulkaolaDoorKeeps
import Derived.Test.YbulkaolaDoorBend
namespace Go.Proofs.YbulkaolaDoor
open Go.ChangeShapes Go.WideShapes Go.ChangeAt Go.RowKit
set_option linter.unusedVariables false

theorem model_big (a0 : Option Addr) (n c : Nat) (a1 : Int) (w : World) (hn : 4096 < n) (hm : n ≤ maxLen) :
    Calls Ybad.prog 3 #[.slice a0 n c, .int .u32 a1] w fun e w' => e = .returned (.bool true) ∧ Below w.heap.size w w' := by
  unfold maxLen at hm
  go_enter Ybad.func3, Ybad.ntmps3
  go_wp2
  go_ret
  exact ⟨rfl, Below.refl _ _⟩

theorem row_take {w : World} {B m : Nat} {a : Option Addr} {zs : List Int} (h : Row w B a m zs) : Row w B a m (zs.take m) := by
  rcases h with h | ⟨b, off, rfl, hB, hc⟩
  · exact .inl h
  · refine .inr ⟨b, off, rfl, hB, fun j hj => ?_⟩
    rw [hc j hj]; simp [hj]

theorem row_map {w : World} {B n p E : Nat} {a : Option Addr} {zs : List Int} (h : Row w B a n zs) (hp : p ≤ E) (hE : E ≤ n) : Row w B (Option.map (fun x => x.add p) a) (E - p) (zs.drop p) := by
  rcases h with h | ⟨b, off, rfl, hB, hc⟩
  · exact .inl (by omega)
  · refine .inr ⟨b, off + p, by simp [add_plain], hB, fun j hj => ?_⟩
    rw [Nat.add_assoc, hc (p + j) (by omega)]
    simp

set_option maxHeartbeats 1000000 in
theorem model_small (a0 : Option Addr) (n c : Nat) (zs : List Int) (a1 : Int) (w : World) (hn : n ≤ 4096) (hl : zs.length = n) (hnc : n ≤ c) (hcm : c ≤ 9223372036854775807)
    (h1 : 0 ≤ a1) (h1' : a1 ≤ 4294967295) (hr : Row w w.heap.size a0 n zs) (hz : ∀ j : Nat, 0 ≤ zs[j]?.getD 0 ∧ zs[j]?.getD 0 ≤ 255) (hT : TabAt w) (hw0 : 0 < w.heap.size) :
    Calls Ybad.prog 3 #[.slice a0 n c, .int .u32 a1] w fun e w' => e = .returned (.bool true) ∧ Below w.heap.size w w' := by
  obtain ⟨i0, hi, hz0, hz1, hz2⟩ := info_parts Ybad.info5
  obtain ⟨p, hpp, hpn⟩ := mod_nat a1 n
  have HL : Hid (zs.length = n) := hl
  have HR : Hid (Row w w.heap.size a0 n zs) := hr
  clear hl hr
  go_enter Ybad.func3, Ybad.ntmps3
  go_wp2_with (at_make; refine wpList_make_full _ rfl _ _ 22 rfl w.heap.size 5 i0 (.int .u8 0) 1 Ybad.underlying22 hi hz0 hz1 _ _ _ _ n rfl rfl rfl rfl ?_ ?_ (Nat.le_refl _) ?_)
  · rw [hz2]; omega
  · unfold maxLen; omega
  intro w1 hown hgrow
  have hB : Below w.heap.size w w1 := (Below.refl _ _).grown hgrow (Nat.le_refl _) (by simp)
  obtain ⟨cur, hcur, hcl⟩ := made_block hown
  have HC : Hid (w1.heap[w.heap.size]? = some (.cells cur.toArray 5 (0, 0))) := hcur
  have HCL : Hid (cur.length = n) := hcl
  clear hown hgrow hi hz0 hz1 hz2 hcur hcl
  obtain ⟨w2, hrun, hR2, hB2⟩ := copy_run (c := c) HR.out hB HC.out HCL.out HL.out
  clear HC HCL
  go_wp2_with fail
  refine (value_any w2.heap.size w.heap.size n zs p _ hn HL.out hpn ?r0 hz ?r1 ?r2 ?r3 ?r4).mono ?_
  case r0 => exact hR2.below ((Below.refl _ _).alloc (Nat.le_refl _) _)
  case r1 => exact hT.below hw0 (hB2.alloc hB2.size _)
  case r2 => go_simp
  case r3 => go_simp
  case r4 => go_simp
  rintro e w3 ⟨a', c', rfl, hRg, hb3, hc1, hoth⟩
  have hsz2 := hB2.size
  have hW3 : Below w.heap.size w w3 := (hB2.alloc hsz2 _).trans (hb3.mono hsz2)
  have hRd : Row w3 w.heap.size a0 n zs := HR.out.below hW3
  have hge := valE_ge zs p
  have hle : valE zs p ≤ n := by rw [← HL.out]; exact valE_le (by rw [HL.out]; exact hpn)
  have HB : Hid (Calls Ybad.prog 6 #[.slice a0 n c, .int .i64 p] w3 fun e w' => e = .returned (.int .i64 (valE zs p : Nat)) ∧ w' = w3) := bend_any w.heap.size a0 n c zs p w3 hn HL.out hpn hRd
  clear hoth hb3 hR2 hB2 hB hrun hT hz HR
  generalize valE zs p = E at *
  go_wp2_with fail
  refine HB.out.mono ?_
  rintro e w4 ⟨rfl, rfl⟩
  clear HB
  have hX : ((zs.drop p).take (E - p)).length = E - p := by have := HL.out; simp; omega
  have hRg' := row_take hRg
  have hRm := row_take (row_map (E := E) hRd hge hle)
  have hR0 : E - p = 0 → Row w4 w.heap.size a0 (E - p) ((zs.drop p).take (E - p)) := fun h => .inl h
  have K1 : Hid (c = p → ∀ cc, Calls Ybad.prog 7 #[.slice a' (E - p) c', .slice a0 (E - p) cc] w4 fun e w' => e = .returned (.bool true) ∧ w' = w4) := fun h cc =>
    equal_same w2.heap.size w.heap.size a' a0 (E - p) c' cc _ w4 hX hRg' (hR0 (by omega))
  have K2 : Hid (∀ cc, Calls Ybad.prog 7 #[.slice a' (E - p) c', .slice (Option.map (fun x => x.add p) a0) (E - p) cc] w4 fun e w' => e = .returned (.bool true) ∧ w' = w4) := fun cc =>
    equal_same w2.heap.size w.heap.size a' _ (E - p) c' cc _ w4 hX hRg' hRm
  clear hX hRg' hRm hR0 hRg hRd
  go_wp2_with fail
  · refine (K1.out (by assumption) _).mono ?_
    rintro e w5 ⟨rfl, rfl⟩
    go_wp2
    go_ret
    exact ⟨rfl, hW3⟩
  · refine (K2.out _).mono ?_
    rintro e w5 ⟨rfl, rfl⟩
    go_wp2
    go_ret
    exact ⟨rfl, hW3⟩
end Go.Proofs.YbulkaolaDoor
