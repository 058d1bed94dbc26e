import Derived.Test.YbulkaopwBits
import Derived.Test.YbulkaopwPlain
import Derived.OwnWalk
import Derived.Laws.OwnMore
import Derived.Deep.CutBlock
import Derived.Deep.DeepCutAuto
import Derived.Deep.LoopGhost
namespace Go.Proofs.Ybulkaopw
open Go.ChangeShapes Go.WideShapes Go.ChangeAt Go.RowKit
set_option linter.unusedVariables false

def dcells (ds : List Nat) : List Value := ds.map fun (d : Nat) => Value.int .u8 (d : Int)

/-- A slice value owns these digits, in blocks from B on. -/
def Own (w : World) (B : Nat) (v : Value) (ds : List Nat) : Prop := w.ownsRow B 5 1 v ds.length (dcells ds)

theorem Own.form {w : World} {B : Nat} {v : Value} {ds : List Nat} (h : Own w B v ds) : ∃ a c, v = .slice a ds.length c ∧ ((a = none ∧ ds = []) ∨ ∃ g, a = some ⟨g, 0, none⟩) := by
  rcases h.2 with ⟨rfl, h0⟩ | ⟨g, cap, cur, rfl, _⟩
  · exact ⟨none, 0, by rw [h0], .inl ⟨rfl, List.length_eq_zero_iff.1 h0⟩⟩
  · exact ⟨_, cap, rfl, .inr ⟨g, rfl⟩⟩

theorem Own.nil (w : World) (B : Nat) : Own w B (.slice none 0 0) [] := World.ownsRow_nil _ _ _ _

theorem Own.cell {w : World} {B g n cp : Nat} {ds : List Nat} (h : Own w B (.slice (some ⟨g, 0, none⟩) n cp) ds) (hl : ds.length = n) (j : Nat) (hj : j < n) : w.cell? ⟨g, j, none⟩ = some (.int .u8 ((ds.getD j 0 : Nat) : Int)) := by
  subst hl
  rw [World.ownsRow.cellAt h j (by omega)]
  simp [dcells, hj]

theorem Own.frozen {w : World} {B g n cp : Nat} {ds : List Nat} (h : Own w B (.slice (some ⟨g, 0, none⟩) n cp) ds) (hl : ds.length = n) (j : Nat) : w.frozen? ⟨g, j, none⟩ = false := by
  subst hl
  exact World.ownsRow.frozenAt h j

theorem Own.stored {w : World} {B g n cp : Nat} {ds : List Nat} (h : Own w B (.slice (some ⟨g, 0, none⟩) n cp) ds) (hl : ds.length = n) (j x : Nat) : Own (w.setCell ⟨g, j, none⟩ (.int .u8 (x : Int))) B (.slice (some ⟨g, 0, none⟩) n cp) (ds.set j x) := by
  subst hl
  have := (World.ownsRow.stored h j (.int .u8 (x : Int))).1
  unfold Own dcells
  rw [List.length_set, List.map_set]
  exact this

theorem Own.base {w : World} {B g n cp : Nat} {ds : List Nat} (h : Own w B (.slice (some ⟨g, 0, none⟩) n cp) ds) : B ≤ g ∧ g < w.heap.size := World.ownsRow.lt h g rfl

theorem Yba.info5c : (Yba.prog.info? 5).map (fun i => (i.zero, i.size, i.bytes)) = some (some (.int .u8 0), 1, 1) := by kernel_rfl

theorem bit_of (x b : Nat) (hx : x < 18446744073709551616) : bits .and .u64 ((x : Int) / 2 ^ b) 1 = ((x / 2 ^ b % 2 : Nat) : Int) := by
  have e : (x : Int) / 2 ^ b = ((x / 2 ^ b : Nat) : Int) := by simp
  have h := bits_and_u64_nat (x / 2 ^ b) 1 (Nat.lt_of_le_of_lt (Nat.div_le_self _ _) hx) (by decide)
  rw [e]
  exact h.trans (by rw [Nat.and_one_is_mod])

theorem below_own {B : Nat} {w w1 w2 : World} {v : Value} {n : Nat} {xs : List Value} (h : Below B w w1) (hB : B ≤ w1.heap.size) (hown : w1.ownsRow B 5 1 v n xs) (hg : w1.grownBy w2 v.ownBlock) : Below B w w2 :=
  h.grown hg hB fun k hk => (hown.lt k hk).1

theorem cell_one_new (W : World) (u : Value) (e : TypeId) : ∀ j x, [u][j]? = some x → (W.alloc (.cells #[u] e)).cell? ((⟨W.heap.size, 0, none⟩ : Addr).add j) = some x := by
  intro j x hj
  cases j with
  | zero =>
    simp at hj
    subst hj
    show (match (W.alloc (.cells #[u] e)).heap[W.heap.size]? with | some (.cells c _ _) => c[0]? | _ => none) = _
    rw [heap_alloc_new W (.cells #[u] e)]
    rfl
  | succ j => simp at hj

set_option maxHeartbeats 4000000 in
theorem dec_walk (g n c : Nat) (ws : List Nat) (hn : ws.length = n) (hn3 : n ≤ 3) (hw : ∀ x ∈ ws, x < 18446744073709551616) (w : World) (hg : g < w.heap.size) (hc : ∀ j, j < n → w.cell? ⟨g, j, none⟩ = some (.int .u64 ((ws.getD j 0 : Nat) : Int))) :
    Calls Yba.prog 10 #[.slice (some ⟨g, 0, none⟩) n c] w fun e w' => ∃ v ds, e = .returned v ∧ Own w' w.heap.size v ds ∧ (∀ d ∈ ds, d < 10) ∧ val ds = num ws ∧ ds.length ≤ 64 * n ∧ Below w.heap.size w w' := by
  obtain ⟨i0, hi, hz0, hz1, hz2⟩ := info_parts Yba.info5c
  have HC := hidd hc
  clear hc
  go_enter Yba.func10, Yba.ntmps10
  go_wp2
  go_loopg [3, 12] n (fun k s3 s12 wr => ∃ (i : Nat) (ds : List Nat), s12 = .int .i64 i ∧ i ≤ n ∧ k = n - i ∧ Own wr w.heap.size s3 ds ∧ (∀ d ∈ ds, d < 10) ∧ val ds = num (ws.take i) ∧ ds.length ≤ 64 * i ∧ Below w.heap.size w wr)
  case atStart => exact ⟨0, [], rfl, Nat.zero_le _, rfl, Own.nil _ _, by simp, by simp [val, num], by simp, Below.refl _ _⟩
  case round =>
    obtain ⟨i, ds, rfl, hil, rfl, hO, hD, hV, hL, hB⟩ := hrel
    obtain ⟨a, cp, rfl, hF⟩ := hO.form
    have A : Hid ((∀ d ∈ ds, d < 10) ∧ val ds = num (ws.take i) ∧ Own wr w.heap.size (.slice a ds.length cp) ds ∧ Below w.heap.size w wr) := ⟨hD, hV, hO, hB⟩
    clear hD hV hO hB hF
    by_cases hi' : i < n
    · have hx : wr.cell? ⟨g, i, none⟩ = some (.int .u64 ((ws.getD i 0 : Nat) : Int)) := by rw [A.out.2.2.2.cell (p := ⟨g, i, none⟩) hg]; exact HC.out i hi'
      have hxl : ws.getD i 0 < 18446744073709551616 := hw _ (by rw [List.getD_eq_getElem?_getD, List.getElem?_eq_getElem (by omega)]; exact List.getElem_mem _)
      obtain ⟨x, hxe⟩ : ∃ x, ws.getD i 0 = x := ⟨_, rfl⟩
      rw [hxe] at hx hxl
      have X := hidd hxe
      clear hxe
      go_wp2
      obtain ⟨wo, hwo⟩ : ∃ wo : World, wo = wr := ⟨_, rfl⟩
      subst hwo
      go_loopg [3, 6] 64 (fun k s3 s6 wb => ∃ (es : List Nat), s6 = .int .i64 ((k : Int) - 1) ∧ k ≤ 64 ∧ Own wb w.heap.size s3 es ∧ (∀ d ∈ es, d < 10) ∧ val es = num (ws.take i) * 2 ^ (64 - k) + x / 2 ^ k ∧ es.length ≤ 64 * i + (64 - k) ∧ Below w.heap.size w wb)
      case atStart =>
        obtain ⟨h1, h2, h3, h4⟩ := A.out
        exact ⟨ds, rfl, by omega, h3, h1, by rw [h2, Nat.div_eq_of_lt (by omega)]; simp, by omega, h4⟩
      case round =>
        obtain ⟨es, rfl, hk, hO, hD, hV, hL2, hB⟩ := hrel
        obtain ⟨a, cp, rfl, hF⟩ := hO.form
        have A2 : Hid ((∀ d ∈ es, d < 10) ∧ val es = num (ws.take i) * 2 ^ (64 - gk) + x / 2 ^ gk ∧ Own wr w.heap.size (.slice a es.length cp) es ∧ Below w.heap.size w wr ∧ (a = none ∧ es = [] ∨ ∃ g, a = some ⟨g, 0, none⟩)) := ⟨hD, hV, hO, hB, hF⟩
        clear hD hV hO hB hF A hx
        by_cases hk0 : 1 ≤ gk
        · obtain ⟨b, hb⟩ : ∃ b : Nat, gk = b + 1 := ⟨gk - 1, by omega⟩
          subst hb
          have e1 : (((b + 1 : Nat) : Int) - 1) = (b : Int) := by omega
          rw [e1]
          clear e1
          have hbt := bit_of x b hxl
          obtain ⟨bt, hbe⟩ : ∃ bt, x / 2 ^ b % 2 = bt := ⟨_, rfl⟩
          rw [hbe] at hbt
          have hb1 : bt ≤ 1 := by omega
          have BE := hidd hbe
          clear hbe
          go_wp2
          obtain ⟨wp, hwp⟩ : ∃ wp : World, wp = wr := ⟨_, rfl⟩
          subst hwp
          go_loopg [7, 28] es.length (fun k s7 s28 wx => ∃ (j c : Nat) (cur : List Nat), s28 = .int .i64 j ∧ s7 = .int .u8 c ∧ j ≤ es.length ∧ k = es.length - j ∧ c ≤ 1 ∧ Hid (cur.length = es.length ∧ Own wx w.heap.size (.slice a es.length cp) cur ∧ (∀ d ∈ cur, d < 10) ∧ Dbl cur j c (2 * val es + bt) ∧ Below w.heap.size w wx))
          case atStart =>
            obtain ⟨h1, h2, h3, h4, h5⟩ := A2.out
            exact ⟨0, bt, es, rfl, rfl, Nat.zero_le _, rfl, hb1, ⟨rfl, h3, h1, dbl_start _ _, h4⟩⟩
          case round =>
            obtain ⟨j, cr, cur, rfl, rfl, hj, rfl, hcr, H⟩ := hrel
            by_cases hj' : j < es.length
            · obtain ⟨g2, rfl⟩ : ∃ g, a = some ⟨g, 0, none⟩ := by
                rcases A2.out.2.2.2.2 with ⟨_, h⟩ | h
                · subst h; simp at hj'
                · exact h
              have hcl := H.out.2.1.cell H.out.1 j hj'
              have hcf := H.out.2.1.frozen H.out.1 j
              have hcd := getD_lt H.out.2.2.1 j
              have hbs := H.out.2.1.base.1
              obtain ⟨d, hd⟩ : ∃ d, cur.getD j 0 = d := ⟨_, rfl⟩
              rw [hd] at hcl hcd
              have DE := hidd hd
              clear hd
              go_wp2
              go_roundg (es.length - (j + 1))
              case measure => omega
              case rel =>
                obtain ⟨h1, h2, h3, h4, h5⟩ := H.out
                have h6 := dbl_step (h1 ▸ hj') h4
                rw [DE.out] at h6
                refine ⟨j + 1, (d * 2 + cr) / 10, cur.set j ((d * 2 + cr) % 10), rfl, rfl, hj', rfl, by omega, ⟨by rw [List.length_set, h1], ?_, mem_set h3 (by omega), h6, ?_⟩⟩
                · exact h2.stored h1 j ((d * 2 + cr) % 10)
                · exact h5.setCell hbs _
            · obtain rfl : j = es.length := by omega
              by_cases hc0 : cr = 0
              · subst hc0
                go_wp2
                go_roundg b
                case measure => omega
                case rel =>
                  obtain ⟨h1, h2, h3, h4, h5⟩ := H.out
                  rw [← h1] at h4
                  have h6 := dbl_end h4
                  refine ⟨cur, rfl, by omega, h2, h3, ?_, by omega, h5⟩
                  rw [Nat.zero_mul, Nat.add_zero] at h6
                  rw [h6, A2.out.2.1, ← BE.out, bit_step _ _ _ (by omega)]
              · obtain rfl : cr = 1 := by omega
                obtain ⟨hl, hown, h3, h4, h5⟩ := H.out
                have hown' : wr.ownsRow w.heap.size 5 1 (.slice a es.length cp) es.length (dcells cur) := by have := hown; unfold Own at this; rwa [hl] at this
                have hbw : w.heap.size ≤ wr.heap.size := h5.size
                have OW := hidd hown'
                have RST := hidd (show cur.length = es.length ∧ (∀ d ∈ cur, d < 10) ∧ Dbl cur es.length 1 (2 * val es + bt) ∧ Below w.heap.size w wr from ⟨hl, h3, h4, h5⟩)
                clear hj' hj H hl hown h3 h4 h5 hown'
                go_wp2_with (at_builtin; refine wpList_append_own _ rfl _ _ 33 rfl w.heap.size 5 i0 (.int .u8 0) 1 1 Yba.underlying33 hi hz0 hz1 hz2 rfl (by decide) _ es.length (dcells cur) rfl (OW.out.alloc _) ⟨wr.heap.size, 0, none⟩ 1 1 [.int .u8 1] rfl rfl ?c1 ?c2 ?c3 ?c4 ?c5 ?_)
                case c1 => exact cell_one_new _ _ _
                case c2 => intro u hu; simp at hu; subst hu; rfl
                case c3 => unfold maxLen; omega
                case c4 => omega
                case c5 => simp; omega
                intro v' w2 hown2 hgrow _
                have hB2 : Below w.heap.size w w2 := below_own (RST.out.2.2.2.alloc hbw _) (by simp; omega) (OW.out.alloc _) hgrow
                have hO2 : Own w2 w.heap.size v' (cur ++ [1]) := by
                  unfold Own
                  rw [List.length_append, RST.out.1]
                  simpa [dcells] using hown2
                clear hown2 hgrow
                go_wp2
                go_roundg b
                case measure => omega
                case rel =>
                  obtain ⟨h1, h3, h4, h5⟩ := RST.out
                  rw [← h1] at h4
                  refine ⟨cur ++ [1], rfl, by omega, hO2, ?_, ?_, ?_, hB2⟩
                  · intro d hd
                    rcases List.mem_append.1 hd with hd | hd
                    · exact h3 d hd
                    · simp at hd; omega
                  · rw [dbl_push h4, A2.out.2.1, ← BE.out, bit_step _ _ _ (by omega)]
                  · rw [List.length_append, h1]; simp; omega
        · obtain rfl : gk = 0 := by omega
          go_wp2
          go_roundg (n - (i + 1))
          case measure => omega
          case rel =>
            obtain ⟨h1, h2, h3, h4, h5⟩ := A2.out
            refine ⟨i + 1, es, rfl, hi', rfl, h3, h1, ?_, by omega, h4⟩
            rw [h2, num_take _ _ (by omega), X.out]
            simp
    · obtain rfl : i = n := by omega
      go_wp2
      go_ret
      obtain ⟨h1, h2, h3, h4⟩ := A.out
      refine ⟨_, ds, rfl, h3, h1, ?_, hL, h4⟩
      rw [h2, ← hn, List.take_length]
end Go.Proofs.Ybulkaopw
