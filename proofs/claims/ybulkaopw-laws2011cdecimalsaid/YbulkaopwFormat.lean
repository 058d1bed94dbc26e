import Derived.Test.YbulkaopwMul
import Derived.Test.YbulkaopwPlain3
import Derived.Laws.AppendOwnNone
import Derived.Deep.Onto
namespace Go.Proofs.Ybulkaopw
open Go.ChangeShapes Go.WideShapes Go.ChangeAt Go.RowKit
set_option linter.unusedVariables false

theorem make_room (n : Nat) (hn : n ≤ 2048) (w : World) : (Instr.makeSlice 33 (.int .i64 0) (.int .i64 (n : Int))).run Yba.prog w = .ok (.slice (some ⟨w.heap.size, 0, none⟩) 0 n) (w.alloc (.cells (mkB n) 5)) := by
  obtain ⟨i0, hi, hz0, hz1, hz2⟩ := info_parts Yba.info5c
  have := run_make (P := Yba.prog) w 33 5 i0 _ Yba.underlying33 hi hz0 .i64 .i64 0 n (by omega) (by omega) (by rw [hz2]; omega) (by omega)
  rw [hz1] at this
  simpa [mkB, Value.cells] using this

theorem own_room (w : World) (B n : Nat) (hb : B ≤ w.heap.size) (hn : n ≤ 2048) : Own (w.alloc (.cells (mkB n) 5)) B (.slice (some ⟨w.heap.size, 0, none⟩) 0 n) [] :=
  World.ownsRow_made w (mkB n) n hb (by unfold maxLen; omega) (by simp [mkB, madeCells])

set_option maxHeartbeats 4000000 in
theorem format_walk (a : Option Addr) (lv c sc B0 : Nat) (dv : List Nat) (w : World) (hlv : dv.length = lv) (hl : lv ≤ 320) (hsc : sc ≤ 18) (hF : (a = none ∧ dv = []) ∨ ∃ g, a = some ⟨g, 0, none⟩) (hO : Own w B0 (.slice a lv c) dv) (hD : ∀ d ∈ dv, d < 10) :
    Calls Yba.prog 8 #[.slice a lv c, .int .i64 sc] w fun e w' => ∃ v L, e = .returned v ∧ LOK (val dv) sc L ∧ L ≤ 340 ∧ Own w' w.heap.size v (txt sc L (dig (val dv)) L) ∧ Below w.heap.size w w' := by
  obtain ⟨i0, hi, hz0, hz1, hz2⟩ := info_parts Yba.info5c
  have HO := hidd hO
  have HF := hidd hF
  clear hO hF
  go_enter Yba.func8, Yba.ntmps8
  go_upto_block 0 with fail
  go_cut [5] (fun s5 wx => w = wx ∧ ∃ n : Nat, s5 = .int .i64 n ∧ n ≤ lv ∧ Hid (∀ k, n ≤ k → dv.getD k 0 = 0) ∧ Hid (n = 0 ∨ dv.getD (n - 1) 0 ≠ 0))
  case first =>
    go_wp2_with fail
    go_loopg [5] lv (fun n s5 wx => w = wx ∧ s5 = .int .i64 n ∧ n ≤ lv ∧ Hid (∀ k, n ≤ k → dv.getD k 0 = 0))
    case atStart => exact ⟨rfl, rfl, Nat.le_refl _, fun k hk => by simp [show dv.length ≤ k by omega]⟩
    case round =>
      obtain ⟨rfl, rfl, hn, hz⟩ := hrel
      by_cases h0 : gk = 0
      · subst h0
        go_wp2
        go_meet
        case rel => exact ⟨rfl, 0, rfl, hn, hz, .inl rfl⟩
      · obtain ⟨m, rfl⟩ : ∃ m, gk = m + 1 := ⟨gk - 1, by omega⟩
        obtain ⟨g, rfl⟩ : ∃ g, a = some ⟨g, 0, none⟩ := by
          rcases HF.out with ⟨_, h⟩ | h
          · subst h; simp at hlv; omega
          · exact h
        have e1 : (((m + 1 : Nat) : Int) - 1) = (m : Int) := by omega
        have hcl := HO.out.cell hlv m (by omega)
        obtain ⟨d, hd⟩ : ∃ d, dv.getD m 0 = d := ⟨_, rfl⟩
        rw [hd] at hcl
        have DE := hidd hd
        clear hd
        by_cases hd0 : d = 0
        · subst hd0
          go_wp2
          go_roundg m
          case measure => omega
          case rel =>
            refine ⟨rfl, ?_, by omega, fun k hk => ?_⟩
            · rfl
            · rcases Nat.eq_or_lt_of_le hk with rfl | hk
              · exact DE.out
              · exact hz.out k hk
        · have hdn : ((d : Int) == 0) = false := beq_eq_false_iff_ne.2 (by omega)
          go_wp2
          go_meet
          case rel => exact ⟨rfl, m + 1, rfl, hn, hz, .inr (by rw [Nat.add_sub_cancel, DE.out]; exact hd0)⟩
  case rest =>
    obtain ⟨rfl, n, rfl, hn, hz, ht⟩ := hcut
    have hP : Hid (Pad (val dv) sc (dv.take n)) := Pad.start hD (by omega) hz.out ht.out
    clear hz ht
    obtain ⟨rm, hrm⟩ : ∃ rm : Nat, (sc : Int) + 1 + (n : Int) = (rm : Int) := ⟨sc + 1 + n, by omega⟩
    have hmr := make_room rm (by omega)
    go_upto_region 5 with fail
    go_cut [6] (fun s6 wx => Hid (Own wx w.heap.size s6 (dv.take n) ∧ Below w.heap.size w wx))
    case first =>
      have hb1 : Below w.heap.size w (w.alloc (.cells (mkB rm) 5)) := (Below.refl _ _).alloc (Nat.le_refl _) _
      have ho1 := own_room w w.heap.size rm (Nat.le_refl _) (by omega)
      have B1 := hidd hb1
      have O1 := hidd ho1
      clear hb1 ho1
      rcases HF.out with ⟨rfl, rfl⟩ | ⟨g, rfl⟩
      · obtain rfl : lv = 0 := by simpa using hlv.symm
        obtain rfl : n = 0 := by omega
        obtain rfl : c = 0 := by
          rcases HO.out.2 with ⟨h, _⟩ | ⟨_, _, _, h, _⟩
          · simpa using h
          · simp at h
        go_wp2_with (at_builtin; refine wpList_append_own_none rfl _ _ 33 rfl w.heap.size 5 i0 1 Yba.underlying33 hi _ 0 [] rfl O1.out rfl ?_)
        go_wp2
        go_meet
        case rel => exact ⟨O1.out, B1.out⟩
      · have hgl : g < w.heap.size := HO.out.base.2
        have hnews : ∀ j u, (dcells (dv.take n))[j]? = some u → (w.alloc (.cells (mkB rm) 5)).cell? ((⟨g, 0, none⟩ : Addr).add j) = some u := by
          intro j u hj
          have hjn : j < n := by
            rcases Nat.lt_or_ge j n with h | h
            · exact h
            · rw [List.getElem?_eq_none (by simp [dcells]; omega)] at hj; exact absurd hj (by simp)
          have e : ((⟨g, 0, none⟩ : Addr).add j) = ⟨g, j, none⟩ := by unfold Addr.add; split <;> simp_all
          rw [e, B1.out.cell (p := ⟨g, j, none⟩) hgl, HO.out.cell hlv j (by omega)]
          rw [← hj]
          simp [dcells, hjn, show j < dv.length by omega]
        have N1 := hidd hnews
        clear hnews
        have hcap : lv ≤ c := by
          rcases HO.out.2 with ⟨h, _⟩ | ⟨_, _, _, h, _, _, h2, _⟩
          · simp at h
          · simp at h; omega
        go_wp2_with (at_builtin; refine wpList_append_own _ rfl _ _ 33 rfl w.heap.size 5 i0 (.int .u8 0) 1 1 Yba.underlying33 hi hz0 hz1 hz2 rfl (by decide) _ 0 [] rfl O1.out ⟨g, 0, none⟩ n c (dcells (dv.take n)) rfl ?c0 N1.out ?c2 ?c3 ?c4 ?c5 ?_)
        case c0 => simp [dcells]; omega
        case c2 => intro u hu; obtain ⟨x, _, rfl⟩ := List.mem_map.1 hu; rfl
        case c3 => unfold maxLen; omega
        case c4 => omega
        case c5 => simp
        intro v' w2 hown2 hgrow _
        have hB2 : Below w.heap.size w w2 := below_own B1.out (by simp) O1.out hgrow
        have hO2 : Own w2 w.heap.size v' (dv.take n) := by
          unfold Own
          rw [List.length_take, Nat.min_eq_left (by omega)]
          simpa using hown2
        clear hown2 hgrow
        have G := hidd (And.intro hO2 hB2)
        clear hO2 hB2
        go_wp2
        go_meet
        case rel => exact G
    case rest =>
      clear HO HF
      go_wp2_with fail
      go_loopg [6] (sc + 1 - n) (fun k s6 wx => ∃ es : List Nat, k = sc + 1 - es.length ∧ es.length ≤ 320 ∧ Hid (Own wx w.heap.size s6 es ∧ Pad (val dv) sc es ∧ Below w.heap.size w wx))
      case atStart => exact ⟨dv.take n, by rw [List.length_take, Nat.min_eq_left (by omega)], by rw [List.length_take]; omega, ⟨hcut.out.1, hP.out, hcut.out.2⟩⟩
      case round =>
        clear hcut hP
        obtain ⟨es, rfl, hel, R⟩ := hrel
        obtain ⟨a6, c6, rfl, hF6⟩ := R.out.1.form
        have HF6 := hidd hF6
        clear hF6
        have hbw : w.heap.size ≤ wr.heap.size := R.out.2.2.size
        by_cases hls : es.length < sc + 1
        · go_wp2_with (at_builtin; refine wpList_append_own _ rfl _ _ 33 rfl w.heap.size 5 i0 (.int .u8 0) 1 1 Yba.underlying33 hi hz0 hz1 hz2 rfl (by decide) _ es.length (dcells es) rfl (R.out.1.alloc _) ⟨wr.heap.size, 0, none⟩ 1 1 [.int .u8 0] rfl rfl (cell_one_new _ _ _) ?c2 ?c3 ?c4 ?c5 ?_)
          case c2 => intro u hu; simp at hu; subst hu; rfl
          case c3 => unfold maxLen; omega
          case c4 => omega
          case c5 => simp; omega
          intro v' w2 hown2 hgrow _
          have hB2 : Below w.heap.size w w2 := below_own (R.out.2.2.alloc hbw _) (by simp; omega) (R.out.1.alloc _) hgrow
          have hO2 : Own w2 w.heap.size v' (es ++ [0]) := by
            unfold Own
            rw [List.length_append]
            simpa [dcells] using hown2
          clear hown2 hgrow
          have G := hidd (And.intro hO2 hB2)
          clear hO2 hB2
          go_wp2
          go_roundg (sc + 1 - (es.length + 1))
          case measure => omega
          case rel => exact ⟨es ++ [0], by simp, by simp; omega, ⟨G.out.1, R.out.2.1.push hls, G.out.2⟩⟩
        · have hlok : Hid (LOK (val dv) sc es.length) := R.out.2.1.lok (by omega)
          obtain ⟨g6, rfl⟩ : ∃ g, a6 = some ⟨g, 0, none⟩ := by
            rcases HF6.out with ⟨_, h⟩ | h
            · subst h; simp at hls
            · exact h
          obtain ⟨rm2, hrm2⟩ : ∃ rm : Nat, (es.length : Int) + 1 = (rm : Int) := ⟨es.length + 1, by omega⟩
          have hmr2 := make_room rm2 (by omega)
          have hg6 : g6 < wr.heap.size := R.out.1.base.2
          go_wp2
          obtain ⟨wo, hwo⟩ : ∃ wo : World, wo = wr := ⟨_, rfl⟩
          subst hwo
          have R6 := R
          clear R
          go_loopg [7, 8] es.length (fun k s7 s8 wx => k ≤ es.length ∧ s8 = .int .i64 ((k : Int) - 1) ∧ Hid (Own wx wo.heap.size s7 (txt sc es.length (dig (val dv)) (es.length - k)) ∧ Below wo.heap.size wo wx))
          case atStart => exact ⟨Nat.le_refl _, rfl, ⟨by rw [Nat.sub_self]; exact own_room wo wo.heap.size rm2 (Nat.le_refl _) (by omega), (Below.refl _ _).alloc (Nat.le_refl _) _⟩⟩
          case round =>
            obtain ⟨hgl, rfl, R⟩ := hrel
            by_cases hg0 : gk = 0
            · subst hg0
              go_wp2
              go_ret
              refine ⟨_, es.length, rfl, hlok.out, by omega, World.ownsRow.mono R.out.1 hbw, R6.out.2.2.trans (R.out.2.mono hbw)⟩
            · obtain ⟨m, rfl⟩ : ∃ m, gk = m + 1 := ⟨gk - 1, by omega⟩
              have e1 : (((m + 1 : Nat) : Int) - 1) = (m : Int) := by omega
              rw [e1]
              clear e1
              have hclo : Hid (wo.cell? ⟨g6, m, none⟩ = some (.int .u8 ((es.getD m 0 : Nat) : Int))) := R6.out.1.cell rfl m (by omega)
              have hd9 := getD_lt R6.out.2.1.all m
              have hde : es.getD m 0 = dig (val dv) m := by rw [getD_dig R6.out.2.1.all, R6.out.2.1.eqn]
              obtain ⟨d, hd⟩ : ∃ d, es.getD m 0 = d := ⟨_, rfl⟩
              rw [hd] at hclo hd9 hde
              have DE := hidd hde.symm
              clear hd hde
              have hcl : wr.cell? ⟨g6, m, none⟩ = some (.int .u8 (d : Int)) := by rw [R.out.2.cell (p := ⟨g6, m, none⟩) hg6]; exact hclo.out
              by_cases hsc0 : 0 < sc
              · by_cases hdot : m = sc - 1
                · have qd : ((m : Int) == (sc : Int) - 1) = true := beq_iff_eq.2 (by omega)
                  have HD := hidd hdot
                  clear hdot
                  have hO := R.out.1
                  have hBl := R.out.2
                  have hbw : wo.heap.size ≤ wr.heap.size := hBl.size
                  have tl := txt_len sc es.length (dig (val dv)) (es.length - (m + 1))
                  go_wp2_with (at_builtin; refine wpList_append_own _ rfl _ _ 33 rfl wo.heap.size 5 i0 (.int .u8 0) 1 1 Yba.underlying33 hi hz0 hz1 hz2 rfl (by decide) _ (txt sc es.length (dig (val dv)) (es.length - (m + 1))).length (dcells (txt sc es.length (dig (val dv)) (es.length - (m + 1)))) rfl (R.out.1.alloc _) ⟨wr.heap.size, 0, none⟩ 1 1 [.int .u8 46] rfl rfl (cell_one_new _ _ _) ?c2 ?c3 ?c4 ?c5 ?_)
                  case c2 => intro u hu; simp at hu; subst hu; rfl
                  case c3 => unfold maxLen; omega
                  case c4 => omega
                  case c5 => simp; omega
                  intro v1 w1 hown1 hgrow1 _
                  have hB1 : Below wo.heap.size wo w1 := below_own (hBl.alloc hbw _) (by simp; omega) (R.out.1.alloc _) hgrow1
                  have hO1 : Own w1 wo.heap.size v1 (txt sc es.length (dig (val dv)) (es.length - (m + 1)) ++ [46]) := by
                    unfold Own
                    rw [List.length_append]
                    simpa [dcells] using hown1
                  have hcl1 : w1.cell? ⟨g6, m, none⟩ = some (.int .u8 (d : Int)) := by rw [hB1.cell (p := ⟨g6, m, none⟩) hg6]; exact hclo.out
                  have hbw1 : wo.heap.size ≤ w1.heap.size := hB1.size
                  have R1 := hidd hO1
                  have S1 := hidd hB1
                  clear hown1 hgrow1 hO1 hB1 hcl
                  go_wp2_with (at_builtin; refine wpList_append_own _ rfl _ _ 33 rfl wo.heap.size 5 i0 (.int .u8 0) 1 1 Yba.underlying33 hi hz0 hz1 hz2 rfl (by decide) _ (txt sc es.length (dig (val dv)) (es.length - (m + 1)) ++ [46]).length (dcells (txt sc es.length (dig (val dv)) (es.length - (m + 1)) ++ [46])) rfl (R1.out.alloc _) ⟨w1.heap.size, 0, none⟩ 1 1 [.int .u8 (48 + (d : Int))] rfl rfl (cell_one_new _ _ _) ?c2 ?c3 ?c4 ?c5 ?_)
                  case c2 => intro u hu; simp at hu; subst hu; rfl
                  case c3 => unfold maxLen; simp; omega
                  case c4 => simp; omega
                  case c5 => simp; omega
                  intro v2 w2 hown2 hgrow2 _
                  have hB2 : Below wo.heap.size wo w2 := below_own (S1.out.alloc hbw1 _) (by simp; omega) (R1.out.alloc _) hgrow2
                  have hO2 : Own w2 wo.heap.size v2 ((txt sc es.length (dig (val dv)) (es.length - (m + 1)) ++ [46]) ++ [48 + d]) := by
                    unfold Own
                    rw [List.length_append]
                    simpa [dcells] using hown2
                  clear hown2 hgrow2
                  have R2 := hidd hO2
                  have S2 := hidd hB2
                  clear hO2 hB2
                  go_wp2
                  go_roundg m
                  case measure => omega
                  case rel =>
                    refine ⟨by omega, rfl, ⟨?_, S2.out⟩⟩
                    have e1 : es.length - m = es.length - (m + 1) + 1 := by omega
                    have e2 : es.length - 1 - (es.length - (m + 1)) = m := by omega
                    have e3 : 48 + d = 48 + dig (val dv) (es.length - 1 - (es.length - (m + 1))) := by rw [e2, DE.out]
                    rw [e1, txt_dot hsc0 (by rw [e2]; exact HD.out), ← e3]
                    exact R2.out

                · have qd : ((m : Int) == (sc : Int) - 1) = false := beq_eq_false_iff_ne.2 (by omega)
                  have hnd : ¬ (0 < sc ∧ m = sc - 1) := by omega
                  have hO := R.out.1
                  have hBl := R.out.2
                  have hbw : wo.heap.size ≤ wr.heap.size := hBl.size
                  have tl := txt_len sc es.length (dig (val dv)) (es.length - (m + 1))
                  go_wp2_with (at_builtin; refine wpList_append_own _ rfl _ _ 33 rfl wo.heap.size 5 i0 (.int .u8 0) 1 1 Yba.underlying33 hi hz0 hz1 hz2 rfl (by decide) _ (txt sc es.length (dig (val dv)) (es.length - (m + 1))).length (dcells (txt sc es.length (dig (val dv)) (es.length - (m + 1)))) rfl (R.out.1.alloc _) ⟨wr.heap.size, 0, none⟩ 1 1 [.int .u8 (48 + (d : Int))] rfl rfl (cell_one_new _ _ _) ?c2 ?c3 ?c4 ?c5 ?_)
                  case c2 => intro u hu; simp at hu; subst hu; rfl
                  case c3 => unfold maxLen; omega
                  case c4 => omega
                  case c5 => simp; omega
                  intro v2 w2 hown2 hgrow2 _
                  have hB2 : Below wo.heap.size wo w2 := below_own (hBl.alloc hbw _) (by simp; omega) (R.out.1.alloc _) hgrow2
                  have hO2 : Own w2 wo.heap.size v2 (txt sc es.length (dig (val dv)) (es.length - (m + 1)) ++ [48 + d]) := by
                    unfold Own
                    rw [List.length_append]
                    simpa [dcells] using hown2
                  clear hown2 hgrow2
                  have R2 := hidd hO2
                  have S2 := hidd hB2
                  clear hO2 hB2
                  go_wp2
                  go_roundg m
                  case measure => omega
                  case rel =>
                    refine ⟨by omega, rfl, ⟨?_, S2.out⟩⟩
                    have e1 : es.length - m = es.length - (m + 1) + 1 := by omega
                    have e2 : es.length - 1 - (es.length - (m + 1)) = m := by omega
                    have e3 : 48 + d = 48 + dig (val dv) (es.length - 1 - (es.length - (m + 1))) := by rw [e2, DE.out]
                    rw [e1, txt_plain (by rw [e2]; exact hnd), ← e3]
                    exact R2.out

              · have hnd : ¬ (0 < sc ∧ m = sc - 1) := by omega
                have hO := R.out.1
                have hBl := R.out.2
                have hbw : wo.heap.size ≤ wr.heap.size := hBl.size
                have tl := txt_len sc es.length (dig (val dv)) (es.length - (m + 1))
                go_wp2_with (at_builtin; refine wpList_append_own _ rfl _ _ 33 rfl wo.heap.size 5 i0 (.int .u8 0) 1 1 Yba.underlying33 hi hz0 hz1 hz2 rfl (by decide) _ (txt sc es.length (dig (val dv)) (es.length - (m + 1))).length (dcells (txt sc es.length (dig (val dv)) (es.length - (m + 1)))) rfl (R.out.1.alloc _) ⟨wr.heap.size, 0, none⟩ 1 1 [.int .u8 (48 + (d : Int))] rfl rfl (cell_one_new _ _ _) ?c2 ?c3 ?c4 ?c5 ?_)
                case c2 => intro u hu; simp at hu; subst hu; rfl
                case c3 => unfold maxLen; omega
                case c4 => omega
                case c5 => simp; omega
                intro v2 w2 hown2 hgrow2 _
                have hB2 : Below wo.heap.size wo w2 := below_own (hBl.alloc hbw _) (by simp; omega) (R.out.1.alloc _) hgrow2
                have hO2 : Own w2 wo.heap.size v2 (txt sc es.length (dig (val dv)) (es.length - (m + 1)) ++ [48 + d]) := by
                  unfold Own
                  rw [List.length_append]
                  simpa [dcells] using hown2
                clear hown2 hgrow2
                have R2 := hidd hO2
                have S2 := hidd hB2
                clear hO2 hB2
                go_wp2
                go_roundg m
                case measure => omega
                case rel =>
                  refine ⟨by omega, rfl, ⟨?_, S2.out⟩⟩
                  have e1 : es.length - m = es.length - (m + 1) + 1 := by omega
                  have e2 : es.length - 1 - (es.length - (m + 1)) = m := by omega
                  have e3 : 48 + d = 48 + dig (val dv) (es.length - 1 - (es.length - (m + 1))) := by rw [e2, DE.out]
                  rw [e1, txt_plain (by rw [e2]; exact hnd), ← e3]
                  exact R2.out

end Go.Proofs.Ybulkaopw
