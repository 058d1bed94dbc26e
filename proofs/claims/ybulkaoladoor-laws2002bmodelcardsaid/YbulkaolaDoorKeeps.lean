import Derived.Test.YbulkaolaDoorValue
import Derived.Laws.CopyOwn
namespace Go.Proofs.YbulkaolaDoor
open Go.ChangeShapes Go.WideShapes Go.ChangeAt Go.RowKit
set_option linter.unusedVariables false

theorem Ybad.info5 : (Ybad.prog.info? 5).map (fun i => (i.zero, i.size, i.bytes)) = some (some (.int .u8 0), 1, 1) := by kernel_rfl
theorem Ybad.size5 : (Ybad.prog.info? 5).map (·.size) = some 1 := by kernel_rfl

theorem row_spliced {w : World} {g n : Nat} {zs : List Int} {cur : List Value} {t : TypeId} (h : w.heap[g]? = some (.cells (splice cur 0 (zs.map (Value.int .u8))).toArray t (0, 0))) (hl : zs.length = n) :
    Row w w.heap.size (some ⟨g, 0, none⟩) n zs := by
  refine .inr ⟨g, 0, rfl, lt_of_block h, fun j hj => ?_⟩
  have hj' : j < zs.length := by omega
  rw [Nat.zero_add, Lib.cell_of_heap h]
  simp [splice, List.getElem?_append, hj']

theorem made_block {w : World} {B n : Nat} {xs : List Value} (h : w.ownsRow B 5 1 (.slice (some ⟨B, 0, none⟩) n n) n xs) : ∃ cur : List Value, w.heap[B]? = some (.cells cur.toArray 5 (0, 0)) ∧ cur.length = n := by
  rcases h.2 with ⟨h', _⟩ | ⟨g, cap, cur, h', _, hg, _, _, hs, _⟩
  · simp at h'
  · simp only [Value.slice.injEq, Option.some.injEq, Addr.mk.injEq, and_true, true_and] at h'
    obtain ⟨rfl, rfl⟩ := h'
    exact ⟨cur.toList, by simpa using hg, by simpa using hs⟩

/-- 'copy(cp, data)': what it runs to. -/
theorem copy_run {w w1 : World} {B n c : Nat} {a0 : Option Addr} {zs : List Int} {cur : List Value} (hr : Row w B a0 n zs) (hb : Below B w w1) (hc : w1.heap[B]? = some (.cells cur.toArray 5 (0, 0))) (hcl : cur.length = n) (hl : zs.length = n) :
    ∃ w2, (∀ ty, (Builtin.copy_ #[22, 22] ty #[.slice (some ⟨B, 0, none⟩) n n, .slice a0 n c]).run Ybad.prog w1 = .ok (.int .i64 n) w2) ∧ Row w2 w2.heap.size (some ⟨B, 0, none⟩) n zs ∧ Below B w w2 := by
  rcases Nat.eq_zero_or_pos n with h0 | hpos
  · subst h0
    exact ⟨w1, fun ty => run_copy_none (P := Ybad.prog) w1 22 22 ty 5 _ _ 0 0 0 c Ybad.underlying22 Ybad.size5 (by simp), .inl rfl, hb⟩
  · rcases hr with h | ⟨b, off, rfl, hB, hcell⟩
    · omega
    have hlen : (zs.map (Value.int .u8)).length = n := by simpa using hl
    refine ⟨_, fun ty => ?_, row_spliced (cur := cur) (setRow_heap w1 B _ _ 5 _ hc) hl, below_setRow hb (Nat.le_refl _) _⟩
    have := run_copy_row (P := Ybad.prog) w1 22 22 ty 5 B 0 n n ⟨b, off, none⟩ n c cur.toArray 5 (zs.map (Value.int .u8)) Ybad.underlying22 Ybad.size5 hc (by simp [hl])
      (fun j v hj => by
        have hj' : j < zs.length := by
          rcases Nat.lt_or_ge j zs.length with h | h
          · exact h
          · rw [List.getElem?_eq_none (by simpa using h)] at hj; exact absurd hj (by simp)
        rw [add_plain, (hb.cell (p := ⟨b, off + j, none⟩) hB), hcell j (by omega)]
        simpa [hj'] using hj)
      (by simp [hl, hcl]) (fun v hv => by obtain ⟨x, _, rfl⟩ := List.mem_map.1 hv; rfl)
    simpa [splice, hl, goInt] using this

theorem mod_nat (a : Int) (n : Nat) : ∃ m : Nat, a % ((n : Int) + 1) = (m : Int) ∧ m ≤ n := by
  have h0 := Int.emod_nonneg a (b := (n : Int) + 1) (by omega)
  have h1 := Int.emod_lt_of_pos a (b := (n : Int) + 1) (by omega)
  exact ⟨(a % ((n : Int) + 1)).toNat, by omega, by omega⟩

theorem keeps_big (a0 : Option Addr) (n c : Nat) (a1 : Int) (top : ByteArray) (w : World) (hn : 4096 < n) (hm : n ≤ maxLen) :
    Calls Ybad.prog 4 #[.slice a0 n c, .int .u32 a1, .string top] w fun e w' => e = .returned (.bool true) ∧ Below w.heap.size w w' := by
  unfold maxLen at hm
  go_enter Ybad.func4, Ybad.ntmps4
  go_wp2
  go_ret
  exact ⟨rfl, Below.refl _ _⟩

set_option maxHeartbeats 1000000 in
theorem keeps_small (a0 : Option Addr) (n c : Nat) (zs : List Int) (a1 : Int) (top : ByteArray) (w : World) (hn : n ≤ 4096) (hl : zs.length = n)
    (h1 : 0 ≤ a1) (h1' : a1 ≤ 4294967295) (hr : Row w w.heap.size a0 n zs) (hz : ∀ j : Nat, 0 ≤ zs[j]?.getD 0 ∧ zs[j]?.getD 0 ≤ 255) (hT : TabAt w) (hw0 : 0 < w.heap.size) :
    Calls Ybad.prog 4 #[.slice a0 n c, .int .u32 a1, .string top] w fun e w' => e = .returned (.bool true) ∧ Below w.heap.size w w' := by
  obtain ⟨i0, hi, hz0, hz1, hz2⟩ := info_parts Ybad.info5
  obtain ⟨p, hpp, hpn⟩ := mod_nat a1 n
  have HL : Hid (zs.length = n) := hl
  have HR : Hid (Row w w.heap.size a0 n zs) := hr
  clear hl hr
  go_enter Ybad.func4, Ybad.ntmps4
  go_wp2_with (at_make; refine wpList_make_full _ rfl _ _ 22 rfl w.heap.size 5 i0 (.int .u8 0) 1 Ybad.underlying22 hi hz0 hz1 _ _ _ _ n rfl rfl rfl rfl ?_ ?_ (Nat.le_refl _) ?_)
  · rw [hz2]; omega
  · unfold maxLen; omega
  intro w1 hown hgrow
  have hB : Below w.heap.size w w1 := (Below.refl _ _).grown hgrow (Nat.le_refl _) (by simp)
  obtain ⟨cur, hcur, hcl⟩ := made_block hown
  have HC : Hid (w1.heap[w.heap.size]? = some (.cells cur.toArray 5 (0, 0))) := hcur
  have HCL : Hid (cur.length = n) := hcl
  clear hown hgrow hi hz0 hz1 hz2 hcur hcl
  obtain ⟨w2, hrun, hR2, hB2⟩ := copy_run (c := c) HR.out hB HC.out HCL.out HL.out
  clear HC HCL
  go_wp2_with fail
  refine (value_any w2.heap.size w.heap.size n zs p _ hn HL.out hpn ?r0 hz ?r1 ?r2 ?r3 ?r4).mono ?_
  case r0 => exact hR2.below ((Below.refl _ _).alloc (Nat.le_refl _) _)
  case r1 => exact hT.below hw0 (hB2.alloc hB2.size _)
  case r2 => go_simp
  case r3 => go_simp
  case r4 => go_simp
  rintro e w3 ⟨a', c', rfl, hRg, hb3, hc1, hoth⟩
  have hsz2 := hB2.size
  have hW3 : Below w.heap.size w w3 := (hB2.alloc hsz2 _).trans (hb3.mono hsz2)
  have c0 : w3.cell? ⟨w2.heap.size, 0, none⟩ = some (.slice (some ⟨w.heap.size, 0, none⟩) n n) := (hoth 0 (by decide)).trans (by go_simp)
  have c2 : w3.cell? ⟨w2.heap.size, 2, none⟩ = some (.string top) := (hoth 2 (by decide)).trans (by go_simp)
  have c3 : w3.cell? ⟨w2.heap.size, 3, none⟩ = some (.slice none 0 0) := (hoth 3 (by decide)).trans (by go_simp)
  have hRc : Row w3 w2.heap.size (some ⟨w.heap.size, 0, none⟩) n zs := (hR2.below ((Below.refl _ _).alloc (Nat.le_refl _) _)).below hb3
  have hRd : Row w3 w.heap.size a0 n zs := HR.out.below hW3
  have hEq := equal_same w2.heap.size w.heap.size (some ⟨w.heap.size, 0, none⟩) a0 n n c zs w3 HL.out hRc hRd
  have HE : Hid (Calls Ybad.prog 7 #[.slice (some ⟨w.heap.size, 0, none⟩) n n, .slice a0 n c] w3 fun e w' => e = .returned (.bool true) ∧ w' = w3) := hEq
  have hge := valE_ge zs p
  have hle : valE zs p ≤ n := by rw [← HL.out]; exact valE_le (by rw [HL.out]; exact hpn)
  have hgt : Hid (p < n → stopB (zs.getD p 0) = false → p < valE zs p) := fun h1 h2 => valE_gt (by rw [HL.out]; exact h1) h2
  have hnil := fun w => Lib.run_eql_slice_nil (P := Ybad.prog) w 26 _ none 0 0 0 0 Ybad.underlying26
  have hcell : p < n → w3.cell? ⟨w.heap.size, p, none⟩ = some (.int .u8 (zs.getD p 0)) := fun h => by
    rcases hRc with h0 | ⟨b, off, e, _, hc⟩
    · omega
    · simp only [Option.some.injEq, Addr.mk.injEq, and_true] at e
      obtain ⟨rfl, rfl⟩ := e
      have := hc p h
      rwa [Nat.zero_add] at this
  clear hoth hb3 hRg hEq hRc hRd hR2 hB2 hB hrun hT hz HR
  generalize valE zs p = E at *
  by_cases hlt : p < n
  · replace hcell := hcell hlt
    by_cases hpe : p < E
    · clear hgt
      go_wp2_with fail
      refine HE.out.mono ?_
      rintro e w4 ⟨rfl, rfl⟩
      go_wp2
      go_ret
      exact ⟨rfl, hW3⟩
    · obtain rfl : E = p := by omega
      have hst : stopB (zs.getD E 0) = true := by
        cases h : stopB (zs.getD E 0)
        · exact absurd (hgt.out hlt h) (by omega)
        · rfl
      have hst' : stopB (zs[E]?.getD 0) = true := by simpa using hst
      clear hgt hst
      go_wp2_with fail
      refine (stop_any _ _).mono ?_
      rintro e w4 ⟨rfl, rfl⟩
      go_wp2_with fail
      refine HE.out.mono ?_
      rintro e w5 ⟨rfl, rfl⟩
      go_wp2
      go_ret
      exact ⟨rfl, hW3⟩
  · obtain rfl : E = p := by omega
    clear hgt hcell
    go_wp2_with fail
    refine HE.out.mono ?_
    rintro e w4 ⟨rfl, rfl⟩
    go_wp2
    go_ret
    exact ⟨rfl, hW3⟩
end Go.Proofs.YbulkaolaDoor
