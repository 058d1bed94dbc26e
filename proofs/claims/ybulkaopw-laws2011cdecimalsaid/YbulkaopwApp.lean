import Derived.Test.YbulkaopwFormat
import Derived.Test.YbulkaopwPlain4
import Derived.Test.YbulkaopwDiv
import Derived.Test.YbulkaopwEq
import Derived.Test.YbulkaopwPlain5
import Derived.Test.YbulkaopwSl
namespace Go.Proofs.Ybulkaopw
open Go.ChangeShapes Go.WideShapes Go.ChangeAt Go.RowKit
set_option linter.unusedVariables false

def wcells (ds : List Nat) : List Value := ds.map fun (d : Nat) => Value.int .u64 (d : Int)

def z108 : Array Value := (dcells (List.replicate 108 0)).toArray

theorem zero50 (w : World) : Sem.run Yba.prog (zeroValue 50) w = .ok (.agg z108) w := by
  kernel_rfl

structure S7 (w1 wx : World) (bw bd : Nat) (qs ds : List Nat) : Prop where
  ws : wx.heap[bw]? = some (.cells (wcells qs).toArray 48 (0, 0))
  dd : wx.heap[bd]? = some (.cells (dcells ds).toArray 50 (0, 0))
  bl : Below w1.heap.size w1 wx
  b1 : w1.heap.size ≤ bw
  b2 : w1.heap.size ≤ bd
  ne : bw ≠ bd

section
variable {w1 wx : World} {bw bd : Nat} {qs ds : List Nat}

theorem S7.word (h : S7 w1 wx bw bd qs ds) (i : Nat) (hi : i < qs.length) : wx.cell? ⟨bw, i, none⟩ = some (.int .u64 ((qs.getD i 0 : Nat) : Int)) := by
  rw [cell_of_row wx bw i _ 48 (0, 0) h.ws]
  simp [wcells, hi]

theorem S7.wfro (h : S7 w1 wx bw bd qs ds) (i : Nat) : wx.frozen? ⟨bw, i, none⟩ = false := frozen_of_row wx bw i _ 48 h.ws

theorem S7.digit (h : S7 w1 wx bw bd qs ds) (i : Nat) (hi : i < ds.length) : wx.cell? ⟨bd, i, none⟩ = some (.int .u8 ((ds.getD i 0 : Nat) : Int)) := by
  rw [cell_of_row wx bd i _ 50 (0, 0) h.dd]
  simp [dcells, hi]

theorem S7.dfro (h : S7 w1 wx bw bd qs ds) (i : Nat) : wx.frozen? ⟨bd, i, none⟩ = false := frozen_of_row wx bd i _ 50 h.dd

theorem S7.setW (h : S7 w1 wx bw bd qs ds) (i x : Nat) : S7 w1 (wx.setCell ⟨bw, i, none⟩ (.int .u64 (x : Int))) bw bd (qs.set i x) ds := by
  refine ⟨?_, ?_, h.bl.setCell (p := ⟨bw, i, none⟩) h.b1 _, h.b1, h.b2, h.ne⟩
  · rw [heap_setCell_same wx bw i _ 48 _ h.ws]
    simp [wcells, List.map_set]
  · rw [Below.heap_setCell _ _ _ _ (fun e => h.ne e.symm)]; exact h.dd

theorem S7.setD (h : S7 w1 wx bw bd qs ds) (i x : Nat) : S7 w1 (wx.setCell ⟨bd, i, none⟩ (.int .u8 (x : Int))) bw bd qs (ds.set i x) := by
  refine ⟨?_, ?_, h.bl.setCell (p := ⟨bd, i, none⟩) h.b2 _, h.b1, h.b2, h.ne⟩
  · rw [Below.heap_setCell _ _ _ _ h.ne]; exact h.ws
  · rw [heap_setCell_same wx bd i _ 50 _ h.dd]
    simp [dcells, List.map_set]

theorem S7.drewN (h : S7 w1 wx bw bd qs ds) (q : Nat) : S7 w1 (wx.drewN q) bw bd qs ds :=
  ⟨h.ws, h.dd, ⟨h.bl.os, h.bl.tape, h.bl.output, h.bl.size, h.bl.block⟩, h.b1, h.b2, h.ne⟩
end

theorem DS.of48 (N : Nat) {ds : List Nat} (hl : ds.length = 108) (h : ∀ k, k < 108 → ds.getD k 0 = 48) : DS N ds 0 :=
  ⟨hl, fun k hk => by rw [h _ (by omega), if_neg (by omega)]⟩

theorem S7.start (w1 : World) (p4 p3 p2 p1 p0 : Nat) : S7 w1 ((w1.alloc (.cells #[.int .u64 p4, .int .u64 p3, .int .u64 p2, .int .u64 p1, .int .u64 p0] 48)).alloc (.cells z108 50)) w1.heap.size (w1.heap.size + 1) [p4, p3, p2, p1, p0] (List.replicate 108 0) := by
  have s1 : (w1.alloc (.cells #[.int .u64 p4, .int .u64 p3, .int .u64 p2, .int .u64 p1, .int .u64 p0] 48)).heap.size = w1.heap.size + 1 := Array.size_push ..
  refine ⟨?_, ?_, ((Below.refl _ _).alloc (Nat.le_refl _) _).alloc (by omega) _, Nat.le_refl _, by omega, by omega⟩
  · rw [Below.heap_alloc _ _ _ (by omega), heap_alloc_new]
    rfl
  · have := heap_alloc_new (w1.alloc (.cells #[.int .u64 p4, .int .u64 p3, .int .u64 p2, .int .u64 p1, .int .u64 p0] 48)) (.cells z108 50)
    rw [s1] at this
    rw [this]
    rfl

theorem Own.below {w wx : World} {B : Nat} {v : Value} {ds : List Nat} (h : Own w B v ds) (hb : Below w.heap.size w wx) : Own wx B v ds := by
  refine ⟨h.1, ?_⟩
  rcases h.2 with h2 | ⟨g, cap, cur, h1, h2, h3, h4⟩
  · exact .inl h2
  · exact .inr ⟨g, cap, cur, h1, h2, by rw [hb.block g (lt_of_block h3)]; exact h3, h4⟩

theorem tag_ne {w : World} {B b : Nat} {v : Value} {ds : List Nat} {c : Array Value} (h : Own w B v ds) (hd : w.heap[b]? = some (.cells c 50 (0, 0))) : some b ≠ v.ownBlock := by
  intro he
  rcases h.2 with ⟨rfl, _⟩ | ⟨g, cap, cur, rfl, _, hg, _⟩
  · simp [Value.ownBlock] at he
  · simp [Value.ownBlock] at he
    subst he
    rw [hg] at hd
    simp at hd

set_option maxHeartbeats 4000000 in
theorem app_walk (hi mid lo uh ul sc B N : Nat) (b1 : hi < 18446744073709551616) (b2 : mid < 18446744073709551616) (b3 : lo < 18446744073709551616) (b4 : uh < 18446744073709551616) (b5 : ul < 18446744073709551616) (hsc : sc ≤ 18)
    (hN : Hid (num [hi, mid, lo] * num [uh, ul] = N)) (vp : Value) (ps : List Nat) (w : World) (hO : Own w B vp ps) (hB : B ≤ w.heap.size) (hp : ps.length ≤ 1024) :
    Calls Yba.prog 7 #[.agg #[.int .u64 uh, .int .u64 ul, .int .i64 sc], vp, .agg #[.int .u64 hi, .int .u64 mid, .int .u64 lo]] w fun e w' => ∃ v L, e = .returned v ∧ LOK N sc L ∧ L ≤ 340 ∧ Own w' B v (ps ++ txt sc L (dig N) L) ∧ Below B w w' := by
  obtain ⟨i0, hi0, hz0, hz1, hz2⟩ := info_parts Yba.info5c
  have HO := hidd hO
  have hzz := zero50
  have hNb : Hid (N < 10 ^ 108) := by rw [← hN.out]; exact big_lt _ _ _ _ _ b1 b2 b3 b4 b5
  clear hO
  go_enter Yba.func7, Yba.ntmps7
  go_wp2_with (go_at_call 11; refine (tmul hi mid lo uh ul b1 b2 b3 b4 b5 _).mono ?_; rintro e w1 ⟨p0, p1, p2, p3, p4, rfl, hsm, hst, hbl⟩)
  have hs0 : ((w.alloc (.cells #[.int .u64 (uh : Int), .int .u64 (ul : Int), .int .i64 (sc : Int)] 38)).alloc (.cells #[.int .u64 (hi : Int), .int .u64 (mid : Int), .int .u64 (lo : Int)] 40)).heap.size = w.heap.size + 2 := by
    show ((w.heap.push _).push _).size = _
    rw [Array.size_push, Array.size_push]
  have hbl0 : Below w.heap.size w ((w.alloc (.cells #[.int .u64 (uh : Int), .int .u64 (ul : Int), .int .i64 (sc : Int)] 38)).alloc (.cells #[.int .u64 (hi : Int), .int .u64 (mid : Int), .int .u64 (lo : Int)] 40)) :=
    ((Below.refl _ _).alloc (Nat.le_refl _) _).alloc (by show _ ≤ (w.heap.push _).size; rw [Array.size_push]; omega) _
  have hbw1 : Hid (Below w.heap.size w w1) := hbl0.trans (hbl.mono (by omega))
  have hscl : Hid (w1.cell? ⟨w.heap.size, 2, none⟩ = some (.int .i64 (sc : Int))) := by
    rw [hbl.cell (p := ⟨w.heap.size, 2, none⟩) (by rw [hs0]; show w.heap.size < _; omega)]
    rw [World.cell?_alloc_past _ _ _ (by show w.heap.size < (w.heap.push _).size; rw [Array.size_push]; omega), World.cell?_alloc_at _ _ _ _ rfl]
    rfl
  have hw1s : w.heap.size + 2 ≤ w1.heap.size := by have := hbl.size; omega
  have hnum : Hid (num [p4, p3, p2, p1, p0] = N) := by rw [← hN.out]; exact hst.num
  have hsm' := hidd hsm
  clear hbl hbl0 hs0 hst hsm
  have hS0 : Hid (S7 w1 _ _ _ _ _) := S7.start w1 p4 p3 p2 p1 p0
  go_loopg [20] 108 (fun k s20 wx => ∃ (i : Nat) (ds : List Nat), s20 = .int .i64 i ∧ i ≤ 108 ∧ k = 108 - i ∧ Hid (S7 w1 wx w1.heap.size (w1.heap.size + 1) [p4, p3, p2, p1, p0] ds ∧ ds.length = 108 ∧ ∀ k, k < i → ds.getD k 0 = 48))
  case atStart => exact ⟨0, List.replicate 108 0, rfl, by omega, rfl, ⟨hS0.out, List.length_replicate, fun k hk => absurd hk (by omega)⟩⟩
  case round =>
    clear hS0
    obtain ⟨i, ds, rfl, hil, rfl, H⟩ := hrel
    by_cases hi' : i < 108
    · have c1 := H.out.1.digit i (by rw [H.out.2.1]; exact hi')
      have c2 := H.out.1.dfro i
      go_wp2
      go_roundg (108 - (i + 1))
      case measure => omega
      case rel =>
        obtain ⟨h1, h2, h3⟩ := H.out
        refine ⟨i + 1, ds.set i 48, rfl, hi', rfl, ⟨h1.setD i 48, by rw [List.length_set, h2], fun k hk => ?_⟩⟩
        rw [getD_set]
        by_cases hk' : i = k
        · rw [if_pos ⟨hk', by omega⟩]
        · rw [if_neg (by omega)]; exact h3 k (by omega)
    · obtain rfl : i = 108 := by omega
      go_wp2_with fail
      have hD0 : Hid (DS N ds 0) := DS.of48 N H.out.2.1 H.out.2.2
      obtain ⟨wf, hwf⟩ : ∃ wf : World, wf = wr := ⟨_, rfl⟩
      subst hwf
      go_loopg [10] 6 (fun k s10 wx => ∃ (t : Nat) (q0 q1 q2 q3 q4 : Nat) (es : List Nat), s10 = .int .i64 (108 - 18 * (t : Int)) ∧ t ≤ 6 ∧ k = 6 - t ∧ Hid (S7 w1 wx w1.heap.size (w1.heap.size + 1) [q4, q3, q2, q1, q0] es ∧ DS N es (18 * t) ∧ num [q4, q3, q2, q1, q0] = N / 10 ^ (18 * t) ∧ Small q0 q1 q2 q3 q4))
      case atStart => exact ⟨0, p0, p1, p2, p3, p4, ds, rfl, by omega, rfl, ⟨H.out.1, hD0.out, by rw [hnum.out]; simp, hsm'.out⟩⟩
      case round =>
        clear H hD0 hnum hsm'
        obtain ⟨t, q0, q1, q2, q3, q4, es, rfl, ht6, rfl, H⟩ := hrel
        have c0 := H.out.1.word 0 (by simp)
        have c1 := H.out.1.word 1 (by simp)
        have c2 := H.out.1.word 2 (by simp)
        have c3 := H.out.1.word 3 (by simp)
        have c4 := H.out.1.word 4 (by simp)
        simp only [List.getD_cons_zero, List.getD_cons_succ] at c0 c1 c2 c3 c4
        have he := eq48 (q4 : Int) q3 q2 q1 q0
        by_cases hz : q4 = 0 ∧ q3 = 0 ∧ q2 = 0 ∧ q1 = 0 ∧ q0 = 0
        · obtain ⟨rfl, rfl, rfl, rfl, rfl⟩ := hz
          have he' : ∀ w : World, (Op.equalIn 10000 48 (.agg #[.int .u64 0, .int .u64 0, .int .u64 0, .int .u64 0, .int .u64 0]) (.agg #[.int .u64 0, .int .u64 0, .int .u64 0, .int .u64 0, .int .u64 0])).run Yba.prog w = .ok true w := fun w => he w
          clear he
          have hsw : wr.cell? ⟨w.heap.size, 2, none⟩ = some (.int .i64 (sc : Int)) := by rw [H.out.1.bl.cell (p := ⟨w.heap.size, 2, none⟩) (by show w.heap.size < _; omega)]; exact hscl.out
          have hD : Hid (DS N es 108) := H.out.2.1.skip (by omega) fun k hk _ => dig_zero N (18 * t) k (by rw [← H.out.2.2.1]; simp [num]) hk
          obtain ⟨pt, hpt⟩ : ∃ pt : Nat, (108 - (sc : Int)) = (pt : Int) := ⟨108 - sc, by omega⟩
          have hpe := hidd (show pt = 108 - sc by omega)
          have hp1 : 90 ≤ pt := by omega
          have hp2 : pt ≤ 108 := by omega
          have S := hidd H.out.1
          clear H
          go_upto_block 8 with fail
          clear c0 c1 c2 c3 c4 he'
          obtain ⟨wg, hwg⟩ : ∃ wg : World, wg = wr := ⟨_, rfl⟩
          subst hwg
          go_cut [15] (fun s15 wx => wg = wx ∧ ∃ f : Nat, s15 = .int .i64 f ∧ f + 1 ≤ pt ∧ Hid (∀ p, p < f → es.getD p 0 = 48) ∧ Hid (f + 1 = pt ∨ es.getD f 0 ≠ 48))
          case first =>
            go_wp2_with fail
            go_loopg [15] (pt - 1) (fun k s15 wx => wg = wx ∧ ∃ f : Nat, s15 = .int .i64 f ∧ f + 1 ≤ pt ∧ k = pt - 1 - f ∧ Hid (∀ p, p < f → es.getD p 0 = 48))
            case atStart => exact ⟨rfl, 0, rfl, by omega, rfl, fun p hp => absurd hp (by omega)⟩
            case round =>
              obtain ⟨rfl, f, rfl, hf, rfl, hz⟩ := hrel
              by_cases hfp : f + 1 < pt
              · have c1 := S.out.digit f (by rw [hD.out.len]; omega)
                obtain ⟨d, hd⟩ : ∃ d, es.getD f 0 = d := ⟨_, rfl⟩
                rw [hd] at c1
                have E := hidd hd
                clear hd
                by_cases hd48 : d = 48
                · subst hd48
                  go_wp2_with fail
                  go_roundg (pt - 1 - (f + 1))
                  case measure => omega
                  case rel =>
                    refine ⟨rfl, f + 1, rfl, hfp, rfl, fun p hp => ?_⟩
                    rcases Nat.lt_or_ge p f with h | h
                    · exact hz.out p h
                    · obtain rfl : p = f := by omega
                      exact E.out
                · have qd : ((d : Int) == 48) = false := beq_eq_false_iff_ne.2 (by omega)
                  go_wp2_with fail
                  go_meet
                  case rel => exact ⟨rfl, f, rfl, hf, hz, .inr (by rw [E.out]; exact hd48)⟩
              · go_wp2_with fail
                go_meet
                case rel => exact ⟨rfl, f, rfl, hf, hz, .inl (by omega)⟩
          case rest =>
            obtain ⟨rfl, f, rfl, hf, hz, ht⟩ := hcut
            have hlok : Hid (LOK N sc (108 - f)) := hD.out.lok hNb.out (by have := hpe.out; omega) hz.out (by have := ht.out; rw [hpe.out] at this; exact this)
            clear hz ht
            have hown0 : Hid (wg.ownsRow B 5 1 vp ps.length (dcells ps)) := (HO.out.below hbw1.out).below S.out.bl
            have hnews : Hid (∀ j u, (dcells ((es.drop f).take (pt - f)))[j]? = some u → wg.cell? ((⟨w1.heap.size + 1, f, none⟩ : Addr).add j) = some u) := by
              intro j u hj
              have hjn : j < pt - f := by
                rcases Nat.lt_or_ge j (pt - f) with h | h
                · exact h
                · rw [List.getElem?_eq_none (by simp [dcells]; omega)] at hj; exact absurd hj (by simp)
              have hl := hD.out.len
              rw [add_plain, S.out.digit (f + j) (by omega), ← hj]
              simp [dcells, List.getElem?_drop, hjn, show f + j < es.length by omega]
            have hsl := slice_lh (w1.heap.size + 1) f pt hf hp2
            have hbg : B ≤ wg.heap.size := by have := S.out.bl.size; omega
            have hBg : Hid (Below B w wg) := (hbw1.out.mono hB).trans (S.out.bl.mono (by omega))
            go_wp2_with (at_builtin; refine wpList_append_own _ rfl _ _ 33 rfl B 5 i0 (.int .u8 0) 1 1 Yba.underlying33 hi0 hz0 hz1 hz2 rfl (by decide) _ ps.length (dcells ps) rfl hown0.out ⟨w1.heap.size + 1, f, none⟩ (pt - f) _ (dcells ((es.drop f).take (pt - f))) rfl ?c0 hnews.out ?c2 ?c3 ?c4 hbg ?_)
            case c0 => have := hD.out.len; simp [dcells]; omega
            case c2 => intro u hu; obtain ⟨x, _, rfl⟩ := List.mem_map.1 hu; rfl
            case c3 => unfold maxLen; omega
            case c4 => omega
            intro v1 w2 hown1 hgrow1 _
            have hlvp : ∀ b, w.heap.size ≤ b → some b ≠ vp.ownBlock := fun b hb he => by have := (World.ownsRow.lt HO.out b he.symm).2; omega
            have hB2 : Hid (Below B w w2) := below_own hBg.out hbg hown0.out hgrow1
            have hO1 : Hid (Own w2 B v1 (ps ++ (es.drop f).take (pt - f))) := by
              have hl := hD.out.len
              have e : (ps ++ (es.drop f).take (pt - f)).length = ps.length + (pt - f) := by simp; omega
              refine hidd ?_
              unfold Own
              rw [e]
              simpa [dcells] using hown1
            have hsw2 : w2.cell? ⟨w.heap.size, 2, none⟩ = some (.int .i64 (sc : Int)) := hgrow1.cell hsw (hlvp _ (Nat.le_refl _))
            have hdd2 : Hid (w2.heap[w1.heap.size + 1]? = some (.cells (dcells es).toArray 50 (0, 0))) := by
              rw [hgrow1.block _ (lt_of_block S.out.dd) (hlvp _ (by omega))]; exact S.out.dd
            clear hown1 hgrow1 hsw hlvp hsl
            have hbg2 : B ≤ w2.heap.size := Nat.le_trans hB hB2.out.size
            by_cases hs0 : sc = 0
            · have hsn : sc ≤ 0 := by omega
              have HS := hidd hs0
              clear hs0
              go_wp2_with fail
              go_ret
              refine ⟨_, 108 - f, rfl, hlok.out, by omega, ?_, hB2.out⟩
              obtain rfl : pt = 108 := by omega
              rw [HS.out, txt_all0 hD.out (by omega)]
              exact hO1.out
            · have hs1 : 0 < sc := by omega
              have hsl2 := slice_l (w1.heap.size + 1) pt (by omega)
              have hT := hD.out.len
              go_wp2_with (at_builtin; refine wpList_append_own _ rfl _ _ 33 rfl B 5 i0 (.int .u8 0) 1 1 Yba.underlying33 hi0 hz0 hz1 hz2 rfl (by decide) _ (ps ++ (es.drop f).take (pt - f)).length (dcells (ps ++ (es.drop f).take (pt - f))) rfl (hO1.out.alloc _) ⟨w2.heap.size, 0, none⟩ 1 1 [.int .u8 46] rfl rfl (cell_one_new _ _ _) ?c2 ?c3 ?c4 ?c5 ?_)
              case c2 => intro u hu; simp at hu; subst hu; rfl
              case c3 => unfold maxLen; simp; omega
              case c4 => simp; omega
              case c5 => simp; omega
              intro v2 w3 hown2 hgrow2 _
              have hB3 : Hid (Below B w w3) := below_own (hB2.out.alloc hbg2 _) (by simp; omega) (hO1.out.alloc _) hgrow2
              have hO2 : Hid (w3.ownsRow B 5 1 v2 ((ps ++ (es.drop f).take (pt - f)).length + 1) (dcells (ps ++ (es.drop f).take (pt - f) ++ [46]))) := by
                refine hidd ?_
                simpa [dcells, hT] using hown2
              have hne : some (w1.heap.size + 1) ≠ v1.ownBlock := tag_ne hO1.out hdd2.out
              have hdd3 : Hid (w3.heap[w1.heap.size + 1]? = some (.cells (dcells es).toArray 50 (0, 0))) := by
                have hlt2 := lt_of_block hdd2.out
                rw [hgrow2.block _ (by simp; omega) hne, Below.heap_alloc _ _ _ hlt2]; exact hdd2.out
              have hnews3 : Hid (∀ j u, (dcells (es.drop pt))[j]? = some u → w3.cell? ((⟨w1.heap.size + 1, pt, none⟩ : Addr).add j) = some u) := by
                intro j u hj
                rw [add_plain, cell_of_row w3 _ _ _ 50 (0, 0) hdd3.out, ← hj]
                simp [dcells, List.getElem?_drop]
              clear hown2 hgrow2 hne
              have hbg3 : B ≤ w3.heap.size := Nat.le_trans hB hB3.out.size
              go_wp2_with (at_builtin; refine wpList_append_own _ rfl _ _ 33 rfl B 5 i0 (.int .u8 0) 1 1 Yba.underlying33 hi0 hz0 hz1 hz2 rfl (by decide) _ ((ps ++ (es.drop f).take (pt - f)).length + 1) (dcells (ps ++ (es.drop f).take (pt - f) ++ [46])) rfl hO2.out ⟨w1.heap.size + 1, pt, none⟩ (108 - pt) _ (dcells (es.drop pt)) rfl ?c0 hnews3.out ?c2 ?c3 ?c4 hbg3 ?_)
              case c0 => simp [dcells]; omega
              case c2 => intro u hu; obtain ⟨x, _, rfl⟩ := List.mem_map.1 hu; rfl
              case c3 => unfold maxLen; simp; omega
              case c4 => simp; omega
              intro v3 w4 hown3 hgrow3 _
              have hB4 : Hid (Below B w w4) := below_own hB3.out hbg3 hO2.out hgrow3
              have hO3 : Hid (Own w4 B v3 (ps ++ ((es.drop f).take (pt - f) ++ [46] ++ es.drop pt))) := by
                have e : (ps ++ ((es.drop f).take (pt - f) ++ [46] ++ es.drop pt)).length = (ps ++ (es.drop f).take (pt - f)).length + 1 + (108 - pt) := by simp; omega
                refine hidd ?_
                unfold Own
                rw [e]
                simpa [dcells, hT] using hown3
              clear hown3 hgrow3
              go_wp2_with fail
              go_ret
              refine ⟨_, 108 - f, rfl, hlok.out, by omega, ?_, hB4.out⟩
              have h1 := hO3.out
              rw [txt_all hD.out hs1 (by omega), show 108 - f - sc = pt - f by omega, show 108 - sc = pt by omega, List.take_of_length_le (l := es.drop pt) (by simp; omega)]
              exact h1
        · have hb : (((q4 : Int) == 0) && ((q3 : Int) == 0) && ((q2 : Int) == 0) && ((q1 : Int) == 0) && ((q0 : Int) == 0)) = false := by
            rw [Bool.eq_false_iff]
            intro h
            simp only [Bool.and_eq_true, beq_iff_eq] at h
            omega
          rw [hb] at he
          have ht5 : t ≤ 5 := by
            rcases Nat.lt_or_ge t 6 with h | h
            · omega
            · exfalso
              have h1 := H.out.2.2.1
              have h2 : N / 10 ^ (18 * t) = 0 := Nat.div_eq_of_lt (Nat.lt_of_lt_of_le hNb.out (Nat.pow_le_pow_right (by decide) (by omega)))
              rw [h2, num5] at h1
              omega
          go_wp2_with fail
          obtain ⟨wg, hwg⟩ : ∃ wg : World, wg = wr := ⟨_, rfl⟩
          subst hwg
          clear he hb c0 c1 c2 c3 c4 hz
          go_loopg [11, 31] 5 (fun k s11 s31 wx => ∃ (i r : Nat) (cur : List Nat), s31 = .int .i64 i ∧ s11 = .int .u64 r ∧ i ≤ 5 ∧ k = 5 - i ∧ r < 1000000000000000000 ∧ Hid (S7 w1 wx w1.heap.size (w1.heap.size + 1) cur es ∧ cur.length = 5 ∧ (∀ k, cur.getD k 0 < 18446744073709551616) ∧ Dvd cur i r (N / 10 ^ (18 * t))))
          case atStart =>
            obtain ⟨h1, h2, h3, ⟨k0, k1, k2, k3, k4⟩⟩ := H.out
            refine ⟨0, 0, [q4, q3, q2, q1, q0], rfl, rfl, by omega, rfl, by omega, ⟨h1, rfl, fun k => ?_, by rw [← h3]; exact Dvd.start _⟩⟩
            rcases k with _ | _ | _ | _ | _ | k <;> simp <;> assumption
          case round =>
            obtain ⟨i, r, cur, rfl, rfl, hi5, rfl, hr, G⟩ := hrel
            by_cases hi' : i < 5
            · have c1 := G.out.1.word i (by rw [G.out.2.1]; exact hi')
              have c2 := G.out.1.wfro i
              have c3 := G.out.2.2.1 i
              obtain ⟨x, hx⟩ : ∃ x, cur.getD i 0 = x := ⟨_, rfl⟩
              rw [hx] at c1 c3
              have E := hidd hx
              clear hx
              go_wp2_with (go_at_call 12; refine (div64 r x hr c3 _).mono ?_; rintro e w2 ⟨rfl, dq, rfl⟩)
              go_roundg (5 - (i + 1))
              case measure => omega
              case rel =>
                obtain ⟨h1, h2, h3, h4⟩ := G.out
                have h5 := h4.step h2 hi'
                rw [E.out] at h5
                have hq : (r * 18446744073709551616 + x) / 1000000000000000000 < 18446744073709551616 := by omega
                refine ⟨i + 1, (r * 18446744073709551616 + x) % 1000000000000000000, cur.set i ((r * 18446744073709551616 + x) / 1000000000000000000), rfl, rfl, hi', rfl, Nat.mod_lt _ (by decide), ⟨(h1.drewN dq).setW i _, by rw [List.length_set, h2], fun k => ?_, h5⟩⟩
                rw [getD_set]
                split
                · exact hq
                · exact h3 k
            · obtain rfl : i = 5 := by omega
              obtain ⟨hq, hrr⟩ := G.out.2.2.2.done G.out.2.1 hr
              have HQ := hidd (And.intro hq hrr)
              clear hq hrr
              go_wp2_with fail
              obtain ⟨wh, hwh⟩ : ∃ wh : World, wh = wr := ⟨_, rfl⟩
              subst hwh
              go_loopg [11, 13] 18 (fun k s11 s13 wx => ∃ (j rj : Nat) (fs : List Nat), s13 = .int .i64 (107 - 18 * (t : Int) - (j : Int)) ∧ s11 = .int .u64 rj ∧ j ≤ 18 ∧ k = 18 - j ∧ rj < 1000000000000000000 ∧ Hid (S7 w1 wx w1.heap.size (w1.heap.size + 1) cur fs ∧ rj = r / 10 ^ j ∧ DS N fs (18 * t + j)))
              case atStart => exact ⟨0, r, es, congrArg (Value.int .i64) (by omega), rfl, by omega, rfl, hr, ⟨G.out.1, by simp, H.out.2.1⟩⟩
              case round =>
                obtain ⟨j, rj, fs, rfl, rfl, hj18, rfl, hrj, K⟩ := hrel
                by_cases hr0 : rj = 0
                · subst hr0
                  go_wp2_with fail
                  go_roundg (6 - (t + 1))
                  case measure => omega
                  case rel =>
                    obtain ⟨h1, h2, h3⟩ := K.out
                    have hl := G.out.2.1
                    obtain ⟨v4, v3, v2, v1, v0, rfl⟩ : ∃ v4 v3 v2 v1 v0, cur = [v4, v3, v2, v1, v0] := by
                      match cur, hl with
                      | [a, b, c, d, e], _ => exact ⟨a, b, c, d, e, rfl⟩
                    have hb := G.out.2.2.1
                    refine ⟨t + 1, v0, v1, v2, v3, v4, fs, congrArg (Value.int .i64) (by omega), by omega, rfl, ⟨h1, ?_, by rw [HQ.out.1, next18], ⟨hb 4, hb 3, hb 2, hb 1, hb 0⟩⟩⟩
                    refine h3.skip (by omega) fun k hk1 hk2 => ?_
                    obtain ⟨l, rfl⟩ : ∃ l, k = 18 * t + l := ⟨k - 18 * t, by omega⟩
                    rw [← digR N t l (by omega), ← HQ.out.2, show l = j + (l - j) by omega, Nat.pow_add, ← Nat.div_div_eq_div_mul, ← h2]
                    simp
                · have hj17 : j < 18 := by
                    rcases Nat.lt_or_ge j 18 with h | h
                    · exact h
                    · exfalso
                      obtain rfl : j = 18 := by omega
                      have := K.out.2.1
                      rw [Nat.div_eq_of_lt hr] at this
                      exact hr0 this
                  obtain ⟨pp, hpp⟩ : ∃ pp : Nat, (107 - 18 * (t : Int) - (j : Int)) = (pp : Int) := ⟨107 - (18 * t + j), by omega⟩
                  have hpl : pp < 108 := by omega
                  have hpe := hidd (show pp = 107 - (18 * t + j) by omega)
                  rw [hpp]
                  have c1 := K.out.1.digit pp (by rw [K.out.2.2.len]; omega)
                  have c2 := K.out.1.dfro pp
                  have hPP := hidd hpp
                  clear hpp
                  have hrp : 0 < rj := by omega
                  have hrb : rj < 18446744073709551616 := by omega
                  have HR := hidd (And.intro hr hrj)
                  clear hr hrj hr0
                  go_wp2_with fail
                  go_roundg (18 - (j + 1))
                  case measure => omega
                  case rel =>
                    obtain ⟨h1, h2, h3⟩ := K.out
                    have h4 := h3.step (by omega)
                    rw [← digR N t j hj17, ← HQ.out.2, ← h2, ← hpe.out] at h4
                    refine ⟨j + 1, rj / 10, fs.set pp (48 + rj % 10), congrArg (Value.int .i64) (by have := hPP.out; omega), rfl, hj17, rfl, by have := HR.out.2; omega, ⟨h1.setD pp (48 + rj % 10), ?_, h4⟩⟩
                    rw [h2, Nat.div_div_eq_div_mul, ← Nat.pow_succ]
end Go.Proofs.Ybulkaopw
