import Derived.Test.YbulkaolaDoorValue
import Derived.Lib.LaidTab
import Derived.LaidMore
import Derived.Lay
namespace Go.Proofs.YbulkaolaDoor
open Go.ChangeShapes Go.WideShapes Go.ChangeAt Go.RowKit
set_option linter.unusedVariables false

/-- An array of bools that reads as the table holds the table's bools, cell for cell. -/
theorem cells_of_bools {H : Type} {enc : TypeId × Value → H} {P : Program} {w : World} {base : Nat} {sp : Nat → Bool} {held : Bool} {fuel : Nat} {t e : TypeId} {n : Nat} {cs : List Value} {bs : List Bool} {p : List MemPlace}
    (ht : P.underlying t = some (.array n e)) (he : P.underlying e = some .bool) (hce : P.cellsOf e = 1) (hct : P.cellsOf t = n)
    (h : DataW.trod enc P w base sp held fuel t cs = some (.agg (bs.map fun b => .lit (.bool b)), p)) : cs = bs.map fun b => Value.bool b := by
  cases fuel with
  | zero => simp [DataW.trod] at h
  | succ fuel =>
    simp only [DataW.trod, ht, hce, hct, Nat.mul_one] at h
    split at h
    · rename_i hl
      obtain ⟨xs, hm, hx⟩ := Option.map_eq_some_iff.1 h
      have hxs : xs.map (·.1) = bs.map fun b => (DataW.lit (.bool b) : DataW H) := by
        have := congrArg Prod.fst hx
        simpa using this
      have hxl : xs.length = n := by simpa using Lib.mapM_length hm
      have hzl : bs.length = n := by
        have := congrArg List.length hxs
        simp at this
        omega
      apply List.ext_getElem?
      intro i
      by_cases hi : i < n
      · obtain ⟨b, hb, hf⟩ := Lib.mapM_at hm i i (by simp [hi])
        obtain ⟨z, hc, rfl⟩ := DataW.trod_bool he hf
        have h1 : cs[i]? = some (.bool z) := by
          have := congrArg (·[0]?) hc
          simpa [List.getElem?_take, List.getElem?_drop] using this
        have h2 : (xs.map (·.1))[i]? = some (DataW.lit (.bool z) : DataW H) := by simp [hb]
        rw [hxs] at h2
        simp only [List.getElem?_map, Option.map_eq_some_iff, DataW.lit.injEq, Lit.bool.injEq] at h2
        obtain ⟨z', hz', rfl⟩ := h2
        simp [h1, hz']
      · rw [List.getElem?_eq_none (by omega), List.getElem?_eq_none (by simp; omega)]
    · cases h

def tabBs : List Bool := (List.range 256).map fun (i : Nat) => stopB (i : Int)
set_option maxRecDepth 100000 in
theorem laid_eq : (Rows.laid_example_com_envoy_accord_envoy_accord_endsScalar : DataW Unit) = .agg (tabBs.map fun b => .lit (.bool b)) := by kernel_rfl

/-- The table's name, as the given rows have it. -/
def vn : String := Rows.lawS2002BKeepsRow.named.headD ""
theorem gTab : Ybad.prog.globalNamed vn = some 0 := by kernel_rfl
theorem tTab : (Ybad.prog.globals[0]?).map (·.type) = some 37 := by kernel_rfl
theorem cells4 : Ybad.prog.cellsOf 4 = 1 := by kernel_rfl
theorem cells37 : Ybad.prog.cellsOf 37 = 256 := by kernel_rfl

def theLaid : List (String × DataW Unit) := [(vn, Rows.laid_example_com_envoy_accord_envoy_accord_endsScalar)]

theorem tab_of_laid {W : World} (h : laidMetH Ybad.prog theLaid W) : TabAt W ∧ 0 < W.heap.size := by
  rw [MakeChecks.laidMetH_plain _ _ _ (by kernel_rfl)] at h
  obtain ⟨ps, ⟨g0, t0, cs0, f0, p0, q0, hg0, ht0, hv0, hd0, _, _⟩, _, _⟩ := h
  obtain rfl := Option.some.inj (gTab.symm.trans hg0)
  obtain rfl := Option.some.inj (tTab.symm.trans ht0)
  rw [laid_eq] at hd0
  have hcs := cells_of_bools Ybad.underlying37 Ybad.underlying4 cells4 cells37 hd0
  have key : TabAt W := by
    intro x h0 h1
    have := World.var?_cell hg0 hv0 x.toNat
    rw [this]
    obtain ⟨l⟩ := cs0
    simp only at hcs
    subst hcs
    have hx : x.toNat < 256 := by omega
    have hx2 : ((x.toNat : Nat) : Int) = x := by omega
    simp [tabBs, hx, hx2]
  exact ⟨key, block_lt_of_cell (key 0 (by omega) (by omega))⟩
end Go.Proofs.YbulkaolaDoor
