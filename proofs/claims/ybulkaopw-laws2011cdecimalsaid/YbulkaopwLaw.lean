import Derived.Test.YbulkaopwCopy
namespace Go.Proofs.Ybulkaopw
open Go.ChangeShapes Go.WideShapes Go.ChangeAt Go.RowKit
set_option linter.unusedVariables false

theorem dec_big (a0 : Option Addr) (n c : Nat) (a1 a2 a3 a4 a5 a6 : Int) (w : World) (hn : 1024 < n) (hm : n ≤ maxLen) :
    Calls Yba.prog 5 #[.slice a0 n c, .int .u64 a1, .int .u64 a2, .int .u64 a3, .int .u64 a4, .int .u64 a5, .int .u8 a6] w fun e w' => e = .returned (.bool true) ∧ Below w.heap.size w w' := by
  unfold maxLen at hm
  go_enter Yba.func5, Yba.ntmps5
  go_wp2
  go_ret
  exact ⟨rfl, Below.refl _ _⟩

theorem cells_new (W : World) (ws : List Nat) : ∀ j, j < ws.length → (W.alloc (.cells (wcells ws).toArray 34)).cell? ⟨W.heap.size, j, none⟩ = some (.int .u64 ((ws.getD j 0 : Nat) : Int)) := by
  intro j hj
  rw [World.cell?_alloc_at _ _ _ _ rfl]
  simp [wcells, hj]

theorem txt_pos (sc L : Nat) (f : Nat → Nat) (h : 0 < L) : 0 < (txt sc L f L).length := by
  cases L with
  | zero => omega
  | succ c => simp only [txt, List.length_append, List.length_cons, List.length_nil]; omega

theorem InRow.up {w w' : World} {B B' : Nat} {a : Option Addr} {n : Nat} {ps : List Nat} (h : InRow w B a n ps) (hb : Below B w w') (hB : B ≤ B') : InRow w' B' a n ps := by
  rcases h.below hb with h | ⟨b, off, h1, h2, h3⟩
  · exact .inl h
  · exact .inr ⟨b, off, h1, by omega, h3⟩

theorem size_new (W : World) (o : Obj) : (W.alloc o).heap.size = W.heap.size + 1 := Array.size_push ..

set_option maxHeartbeats 4000000 in
theorem dec_small (a0 : Option Addr) (n c hi mid lo uh ul s6 : Nat) (ps : List Nat) (w : World) (hn : n ≤ 1024) (hl : ps.length = n)
    (b1 : hi < 18446744073709551616) (b2 : mid < 18446744073709551616) (b3 : lo < 18446744073709551616) (b4 : uh < 18446744073709551616) (b5 : ul < 18446744073709551616) (b6 : s6 < 256)
    (hr : InRow w w.heap.size a0 n ps) :
    Calls Yba.prog 5 #[.slice a0 n c, .int .u64 hi, .int .u64 mid, .int .u64 lo, .int .u64 uh, .int .u64 ul, .int .u8 s6] w fun e w' => e = .returned (.bool true) ∧ Below w.heap.size w w' := by
  obtain ⟨sc, hsc⟩ : ∃ sc : Nat, (s6 : Int) % 19 = (sc : Int) := ⟨s6 % 19, by omega⟩
  have hsc18 : sc ≤ 18 := by omega
  have hmb := make_bytes n (by omega)
  have HR := hidd hr
  have HL := hidd hl
  clear hr hl
  obtain ⟨N, hN⟩ : ∃ N, num [hi, mid, lo] * num [uh, ul] = N := ⟨_, rfl⟩
  have HN := hidd hN
  clear hN
  have hbW : Below w.heap.size w (((w.alloc (.cells #[.int .u64 (uh : Int), .int .u64 (ul : Int), .int .i64 (sc : Int)] 38)).alloc (.cells #[.int .u64 (hi : Int), .int .u64 (mid : Int), .int .u64 (lo : Int)] 40)).alloc (.cells (mkB n) 5)) :=
    (((Below.refl _ _).alloc (Nat.le_refl _) _).alloc (by rw [size_new]; omega) _).alloc (by rw [size_new, size_new]; omega) _
  have hhW : (((w.alloc (.cells #[.int .u64 (uh : Int), .int .u64 (ul : Int), .int .i64 (sc : Int)] 38)).alloc (.cells #[.int .u64 (hi : Int), .int .u64 (mid : Int), .int .u64 (lo : Int)] 40)).alloc (.cells (mkB n) 5)).heap[w.heap.size + 1 + 1]? = some (.cells (mkB n) 5 (0, 0)) := by
    rw [show w.heap.size + 1 + 1 = ((w.alloc (.cells #[.int .u64 (uh : Int), .int .u64 (ul : Int), .int .i64 (sc : Int)] 38)).alloc (.cells #[.int .u64 (hi : Int), .int .u64 (mid : Int), .int .u64 (lo : Int)] 40)).heap.size by rw [size_new, size_new]]
    exact heap_alloc_new _ _
  have hrW := HR.out.up hbW (show w.heap.size ≤ w.heap.size + 1 + 1 by omega)
  obtain ⟨w2, hcp, hO2, hb2⟩ := copy_own (c := c) w.heap.size (by omega) hrW hhW HL.out hn
  have hsz2 : w.heap.size + 3 ≤ w2.heap.size := by have := hb2.size; rw [size_new, size_new, size_new] at this; omega
  have c0 : w2.cell? ⟨w.heap.size, 0, none⟩ = some (.int .u64 (uh : Int)) := (hb2.cell (p := ⟨w.heap.size, 0, none⟩) (by show w.heap.size < _; omega)).trans (by go_simp)
  have c1 : w2.cell? ⟨w.heap.size, 1, none⟩ = some (.int .u64 (ul : Int)) := (hb2.cell (p := ⟨w.heap.size, 1, none⟩) (by show w.heap.size < _; omega)).trans (by go_simp)
  have c2 : w2.cell? ⟨w.heap.size, 2, none⟩ = some (.int .i64 (sc : Int)) := (hb2.cell (p := ⟨w.heap.size, 2, none⟩) (by show w.heap.size < _; omega)).trans (by go_simp)
  have d0 : w2.cell? ⟨w.heap.size + 1, 0, none⟩ = some (.int .u64 (hi : Int)) := (hb2.cell (p := ⟨w.heap.size + 1, 0, none⟩) (by show w.heap.size + 1 < _; omega)).trans (by go_simp)
  have d1 : w2.cell? ⟨w.heap.size + 1, 1, none⟩ = some (.int .u64 (mid : Int)) := (hb2.cell (p := ⟨w.heap.size + 1, 1, none⟩) (by show w.heap.size + 1 < _; omega)).trans (by go_simp)
  have d2 : w2.cell? ⟨w.heap.size + 1, 2, none⟩ = some (.int .u64 (lo : Int)) := (hb2.cell (p := ⟨w.heap.size + 1, 2, none⟩) (by show w.heap.size + 1 < _; omega)).trans (by go_simp)
  have B2 := hidd (hbW.trans (hb2.mono (by omega)))
  have O2 := hidd hO2
  clear hbW hhW hrW hb2 hO2
  go_enter Yba.func5, Yba.ntmps5
  go_wp2_with (go_at_call 7; refine (app_walk hi mid lo uh ul sc w.heap.size N b1 b2 b3 b4 b5 hsc18 HN _ ps _ O2.out (by omega) (by rw [HL.out]; omega)).mono ?_; rintro e w3 ⟨v19, L, rfl, hlok, hL, hO3, hb3⟩)
  clear hcp hmb c0 c1 c2 d0 d1 d2 O2
  have B3 := hidd (B2.out.trans hb3)
  have O3 := hidd hO3
  have LK := hidd hlok
  clear hb3 hO3 hlok B2
  have hsz3 : w.heap.size ≤ w3.heap.size := B3.out.size
  have hd1 := dec_walk w3.heap.size 3 3 [hi, mid, lo] rfl (by omega) (by simp [b1, b2, b3]) (w3.alloc (.cells (wcells [hi, mid, lo]).toArray 34)) (by rw [size_new]; omega) (cells_new w3 [hi, mid, lo])
  have D1 := hidd hd1
  clear hd1
  (try simp only [hsc])
  clear hsc
  go_wp2_with fail
  refine D1.out.mono ?_
  rintro e w4 ⟨vA, av, rfl, hOA, hdA, hvA, hlA, hb4⟩
  clear D1
  have hs3 : (w3.alloc (.cells (wcells [hi, mid, lo]).toArray 34)).heap.size = w3.heap.size + 1 := size_new _ _
  have B4 := hidd ((B3.out.alloc hsz3 _).trans (hb4.mono (by omega)))
  have O4 : Hid (Own w4 w.heap.size v19 (ps ++ txt sc L (dig N) L)) := Own.below (w := w3.alloc (.cells (wcells [hi, mid, lo]).toArray 34)) (World.ownsRow.alloc O3.out _) hb4
  have A4 : Hid (Own w4 w.heap.size vA av) := World.ownsRow.mono hOA (by omega)
  have FA := hidd (show (∀ d ∈ av, d < 10) ∧ val av = num [hi, mid, lo] ∧ av.length ≤ 192 from ⟨hdA, hvA, by omega⟩)
  clear hOA hdA hvA hlA hb4 hs3 B3 O3 hsz3 hsz2
  have hsz4 : w.heap.size ≤ w4.heap.size := B4.out.size
  have hd2 := dec_walk w4.heap.size 2 2 [uh, ul] rfl (by omega) (by simp [b4, b5]) (w4.alloc (.cells (wcells [uh, ul]).toArray 34)) (by rw [size_new]; omega) (cells_new w4 [uh, ul])
  have D2 := hidd hd2
  clear hd2
  go_wp2_with fail
  refine D2.out.mono ?_
  rintro e w5 ⟨vB, bv, rfl, hOB, hdB, hvB, hlB, hb5⟩
  clear D2
  have hs4 : (w4.alloc (.cells (wcells [uh, ul]).toArray 34)).heap.size = w4.heap.size + 1 := size_new _ _
  have B5 := hidd ((B4.out.alloc hsz4 _).trans (hb5.mono (by omega)))
  have O5 : Hid (Own w5 w.heap.size v19 (ps ++ txt sc L (dig N) L)) := Own.below (w := w4.alloc (.cells (wcells [uh, ul]).toArray 34)) (World.ownsRow.alloc O4.out _) hb5
  have A5 : Hid (Own w5 w.heap.size vA av) := Own.below (w := w4.alloc (.cells (wcells [uh, ul]).toArray 34)) (World.ownsRow.alloc A4.out _) hb5
  have C5 : Hid (Own w5 w.heap.size vB bv) := World.ownsRow.mono hOB (by omega)
  have M5 := hidd (mul_walk vA vB w.heap.size av bv w5 FA.out.2.2 (by omega) A5.out C5.out FA.out.1 hdB)
  have FB := hidd (show val av * val bv = N by rw [FA.out.2.1, hvB]; exact HN.out)
  clear hOB hdB hvB hlB hb5 hs4 B4 O4 A4 hsz4
  go_wp2_with fail
  refine M5.out.mono ?_
  rintro e w6 ⟨vC, cv, rfl, hOC, hdC, hvC, hlC, hb6⟩
  clear M5
  have hsz5 : w.heap.size ≤ w5.heap.size := B5.out.size
  have B6 := hidd (B5.out.trans (hb6.mono hsz5))
  have O6 : Hid (Own w6 w.heap.size v19 (ps ++ txt sc L (dig N) L)) := O5.out.below hb6
  obtain ⟨aC, cC, rfl, hFC⟩ := hOC.form
  have hsz6 : w.heap.size ≤ w6.heap.size := B6.out.size
  have M6 := hidd (format_walk aC cv.length cC sc w5.heap.size cv w6 rfl hlC hsc18 hFC hOC hdC)
  have hvN : Hid (val cv = N) := by rw [hvC]; exact FB.out
  clear hOC hdC hvC hlC hb6 hFC A5 C5 B5 O5 FA FB hsz5
  go_wp2_with fail
  refine M6.out.mono ?_
  rintro e w7 ⟨vD, L', rfl, hlok', hL', hOD, hb7⟩
  clear M6
  rw [hvN.out] at hlok' hOD
  obtain rfl : L = L' := LK.out.unique hlok'
  have B7 := hidd (B6.out.trans (hb7.mono hsz6))
  have O7 : Hid (Own w7 w.heap.size v19 (ps ++ txt sc L (dig N) L)) := O6.out.below hb7
  have P7 := hidd hOD
  have hTp : 0 < (txt sc L (dig N) L).length := txt_pos _ _ _ (by have := hlok'.lo; omega)
  have hTl := txt_len sc L (dig N) L
  clear hlok' hL' hOD hb7 B6 O6 LK hvN HN
  generalize txt sc L (dig N) L = T at *
  obtain ⟨a9, c9, hv9, hf9⟩ := O7.out.form
  obtain ⟨aD, cD, hvD, hfD⟩ := P7.out.form
  obtain ⟨g9, hg9⟩ : ∃ g, a9 = some ⟨g, 0, none⟩ := by
    rcases hf9 with ⟨_, h⟩ | h
    · simp at h; rw [h.2] at hTp; simp at hTp
    · exact h
  obtain ⟨gD, hgD⟩ : ∃ g, aD = some ⟨g, 0, none⟩ := by
    rcases hfD with ⟨_, h⟩ | h
    · rw [h] at hTp; simp at hTp
    · exact h
  subst hg9 hgD hv9 hvD
  have e9 : (ps ++ T).length = n + T.length := by rw [List.length_append, HL.out]
  obtain ⟨tl, htl⟩ : ∃ tl, T.length = tl := ⟨_, rfl⟩
  obtain ⟨m, hm⟩ : ∃ m : Nat, (n : Int) + (tl : Int) = (m : Int) := ⟨n + tl, by omega⟩
  have e9' : (ps ++ T).length = m := by omega
  rw [e9'] at O7 ⊢
  rw [htl] at P7 hTp hTl ⊢
  have H9 := hidd e9'
  have HT := hidd htl
  clear e9 e9' htl hf9 hfD
  go_wp2_with fail
  go_loopg [21] n (fun k s21 wx => ∃ i q : Nat, s21 = .int .i64 i ∧ i ≤ n ∧ k = n - i ∧ w7.drewN q = wx)
  case atStart => exact ⟨0, 0, rfl, Nat.zero_le _, rfl, rfl⟩
  case round =>
    obtain ⟨i, q, rfl, hi9, rfl, rfl⟩ := hrel
    by_cases hi' : i < n
    · obtain ⟨b, off, rfl, hbl, hcl⟩ : ∃ b off, a0 = some ⟨b, off, none⟩ ∧ b < w.heap.size ∧ ∀ j, j < n → w7.cell? ⟨b, off + j, none⟩ = some (.int .u8 ((ps.getD j 0 : Nat) : Int)) := by
        rcases HR.out.below B7.out with h | h
        · omega
        · exact h
      have k1 := hcl i hi'
      have k2 := O7.out.cell H9.out i (by omega)
      have e2 : (ps ++ T).getD i 0 = ps.getD i 0 := by
        rw [List.getD_eq_getElem?_getD, List.getD_eq_getElem?_getD, List.getElem?_append_left (by rw [HL.out]; exact hi')]
      rw [e2] at k2
      clear e2 hcl
      obtain ⟨z, hz⟩ : ∃ z, ps.getD i 0 = z := ⟨_, rfl⟩
      rw [hz] at k1 k2
      clear hz
      have him : i < m := by omega
      go_wp2_with fail
      go_quiet (fail)
      go_wp2_with fail
      go_roundg (n - (i + 1))
      case measure => omega
      case rel => exact ⟨i + 1, _, rfl, hi', rfl, rfl⟩
    · obtain rfl : i = n := by omega
      go_wp2_with fail
      go_loopg [22] tl (fun k s22 wx => ∃ j q : Nat, s22 = .int .i64 j ∧ j ≤ tl ∧ k = tl - j ∧ w7.drewN q = wx)
      case atStart => exact ⟨0, q, rfl, Nat.zero_le _, rfl, rfl⟩
      case round =>
        obtain ⟨j, q, rfl, hj9, rfl, rfl⟩ := hrel
        by_cases hj' : j < tl
        · obtain ⟨p, hp⟩ : ∃ p : Nat, (i : Int) + (j : Int) = (p : Int) := ⟨i + j, by omega⟩
          have hpm : p < m := by omega
          have k1 := O7.out.cell H9.out p hpm
          have k2 := P7.out.cell HT.out j hj'
          have e2 : (ps ++ T).getD p 0 = T.getD j 0 := by
            have hlp := HL.out
            rw [List.getD_eq_getElem?_getD, List.getD_eq_getElem?_getD, List.getElem?_append_right (by omega), show p - ps.length = j by omega]
          rw [e2] at k1
          clear e2
          obtain ⟨z, hz⟩ : ∃ z, T.getD j 0 = z := ⟨_, rfl⟩
          rw [hz] at k1 k2
          clear hz
          go_wp2_with fail
          go_quiet (fail)
          go_wp2_with fail
          go_roundg (tl - (j + 1))
          case measure => omega
          case rel => exact ⟨j + 1, _, rfl, hj', rfl, rfl⟩
        · go_wp2_with fail
          go_ret
          have hB := B7.out
          exact ⟨rfl, ⟨hB.os, hB.tape, hB.output, hB.size, hB.block⟩⟩
end Go.Proofs.Ybulkaopw
