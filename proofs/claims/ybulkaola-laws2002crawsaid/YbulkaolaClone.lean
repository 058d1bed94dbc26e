import Derived.Test.YbulkaolaEnter
import Derived.OwnWalk
import Derived.WalkSpells
import Derived.WalkLawsBesides
namespace Go.Proofs.Ybulkaola
open Go.ChangeShapes Go.WideShapes Go.ChangeAt Go.RowKit
set_option linter.unusedVariables false

theorem Yba.info5c : (Yba.prog.info? 5).map (fun i => (i.zero, i.size, i.bytes)) = some (some (.int .u8 0), 1, 1) := by kernel_rfl

theorem row_of_owns {w : World} {B n : Nat} {v : Value} {zs : List Int} (hz : n ≤ zs.length) (h : w.ownsRow B 5 1 v n ((zs.take n).map (Value.int .u8))) :
    ∃ a c, v = .slice a n c ∧ Row w w.heap.size a n zs := by
  rcases h.2 with ⟨rfl, rfl⟩ | ⟨g, cap, cur, rfl, hg, hh, _⟩
  · exact ⟨none, 0, rfl, .inl rfl⟩
  · refine ⟨_, cap, rfl, .inr ⟨g, 0, rfl, lt_of_block hh, fun j hj => ?_⟩⟩
    rw [Nat.zero_add, h.cellAt j (by omega)]
    have : j < zs.length := by omega
    simp [hj, this]

theorem clone_nil (w : World) :
    Calls Yba.prog 5 #[.slice none 0 0] w fun e w' => e = .returned (.slice none 0 0) ∧ w' = w := by
  have hnil := fun w => Lib.run_eql_slice_nil (P := Yba.prog) w 22 5 none 0 0 0 0 Yba.underlying22
  go_enter Yba.func5, Yba.ntmps5
  go_wp2
  go_ret
  exact ⟨rfl, rfl⟩

theorem add_block (a : Addr) (j : Nat) : (a.add j).block = a.block := by unfold Addr.add; split <;> rfl

set_option maxHeartbeats 400000 in
theorem clone_some (ad : Addr) (n c : Nat) (zs : List Int) (w : World) (hn : n ≤ 1024) (hz : n ≤ zs.length)
    (hc : ∀ j, j < zs.length → w.cell? (ad.add j) = some (.int .u8 (zs.getD j 0))) (hlt : ∀ j, j < n → ad.block < w.heap.size) :
    Calls Yba.prog 5 #[.slice (some ad) n c] w fun e w' => ∃ a' c', e = .returned (.slice a' n c') ∧ Row w' w'.heap.size a' n zs ∧ Below w.heap.size w w' := by
  have hnil := fun w => Lib.run_eql_slice_nil (P := Yba.prog) w 22 5 (some ad) n c 0 0 Yba.underlying22
  obtain ⟨i0, hi, hz0, hz1, hz2⟩ := info_parts Yba.info5c
  go_enter Yba.func5, Yba.ntmps5
  have hnw : ∀ (W : World), Below w.heap.size w W → ∀ j u, ((zs.take n).map (Value.int .u8))[j]? = some u → W.cell? (ad.add j) = some u := by
    intro W hW j u hj
    have hjn : j < n := by
      rcases Nat.lt_or_ge j n with h | h
      · exact h
      · rw [List.getElem?_eq_none (by simp; omega)] at hj; exact absurd hj (by simp)
    rw [hW.cell (p := ad.add j) (by rw [add_block]; exact hlt j hjn), hc j (by omega)]
    have hjz : j < zs.length := by omega
    simp [hjn, hjz] at hj ⊢
    exact hj
  have hB1 : Below w.heap.size w (w.alloc (.cells #[] 5)) := (Below.refl _ _).alloc (Nat.le_refl _) _
  have hown := World.ownsRow_lit (base := w.heap.size) (e := 5) (size := 1) w #[] 0 (Nat.le_refl _) (Nat.zero_le _) rfl
  go_wp2_with (at_builtin; refine wpList_append_own _ rfl _ _ 22 rfl w.heap.size 5 i0 (.int .u8 0) 1 1 Yba.underlying22 hi hz0 hz1 hz2 rfl (by decide) _ 0 [] rfl hown ad n c ((zs.take n).map (Value.int .u8)) rfl ?c0 (hnw _ hB1) ?c2 ?c3 ?c4 ?c5 ?_)
  case c2 =>
    intro u hu
    rw [← List.map_take] at hu
    obtain ⟨x, _, rfl⟩ := List.mem_map.1 hu
    rfl
  case c3 => unfold maxLen; omega
  case c4 => omega
  intro v' w' hown' hgrow _
  have hB2 : Below w.heap.size w w' := hB1.grown hgrow (by simp) (by intro k hk; simp [Value.ownBlock] at hk; omega)
  rw [← List.map_take] at hown'
  have hR := row_of_owns hz hown'
  clear hown' hgrow hown hnw hc hlt hi hz0 hz1 hz2 hnil hB1
  go_wp2
  go_ret
  obtain ⟨a', c', rfl, hR⟩ := hR
  exact ⟨a', c', rfl, hR, hB2⟩

theorem raw_big (a0 : Option Addr) (n c : Nat) (a1 a2 : Int) (w : World) (hn : 1024 < n) (hm : n ≤ maxLen) :
    Calls Yba.prog 3 #[.slice a0 n c, .int .u64 a1, .int .u8 a2] w fun e w' => e = .returned (.bool true) ∧ Below w.heap.size w w' := by
  unfold maxLen at hm
  go_enter Yba.func3, Yba.ntmps3
  go_wp2
  go_ret
  exact ⟨rfl, Below.refl _ _⟩

theorem mod_nat_raw (a : Int) (n : Nat) : ∃ m : Nat, a % ((n : Int) + 3) = (m : Int) ∧ m ≤ n + 2 := by
  have h0 := Int.emod_nonneg a (b := (n : Int) + 3) (by omega)
  have h1 := Int.emod_lt_of_pos a (b := (n : Int) + 3) (by omega)
  exact ⟨(a % ((n : Int) + 3)).toNat, by omega, by omega⟩

/-- The law, over whatever Clone hands back. -/
theorem raw_any (a0 : Option Addr) (n c : Nat) (zs : List Int) (a1 a2 : Int) (w : World) (hn : n ≤ 1024)
    (h1 : 0 ≤ a1) (h1' : a1 ≤ 18446744073709551615) (h2 : 0 ≤ a2) (h2' : a2 ≤ 255) (hr : Row w w.heap.size a0 n zs)
    (hcl : Calls Yba.prog 5 #[.slice a0 n c] w fun e w' => ∃ a' c', e = .returned (.slice a' n c') ∧ Row w' w'.heap.size a' n zs ∧ Below w.heap.size w w') :
    Calls Yba.prog 3 #[.slice a0 n c, .int .u64 a1, .int .u8 a2] w fun e w' => e = .returned (.bool true) ∧ Below w.heap.size w w' := by
  obtain ⟨m, hmm, hmn⟩ := mod_nat_raw a1 n
  have HC : Hid (Calls Yba.prog 5 #[.slice a0 n c] w fun e w' => ∃ a' c', e = .returned (.slice a' n c') ∧ Row w' w'.heap.size a' n zs ∧ Below w.heap.size w w') := hcl
  clear hcl
  go_enter Yba.func3, Yba.ntmps3
  go_wp2_with fail
  refine HC.out.mono ?_
  rintro e w1 ⟨a', c', rfl, hR, hB⟩
  clear HC
  have hsz := hB.size
  go_wp2_with fail
  refine (enter_any w1.heap.size a' n c' zs m _ _ (by omega) (by omega) ?r0 ?r1 ?r2 ?r3).mono ?_
  case r0 => exact hR.below ((Below.refl _ _).alloc (Nat.le_refl _) _)
  case r1 => go_simp
  case r2 => go_simp
  case r3 => go_simp
  rintro e w2 ⟨j, hj, rfl, hb2, hc1, hoth⟩
  have hW2 : Below w.heap.size w w2 := (hB.alloc (by omega) _).trans (hb2.mono (by omega))
  have hR2 := hr.below hW2
  clear hoth hb2 hB hR hr
  go_wp2_with fail
  refine (model_any w.heap.size _ n c zs m _ _ (by omega) (by omega) hR2).mono ?_
  rintro e w3 ⟨j', hj', rfl, rfl⟩
  obtain rfl := hj.unique hj'
  clear hj hj' hR2
  go_wp2
  go_ret
  exact ⟨rfl, hW2⟩
end Go.Proofs.Ybulkaola
