import Derived.Test.YbulkaopwDec
import Derived.Test.YbulkaopwPlain2
import Derived.BigRegion
namespace Go.Proofs.Ybulkaopw
open Go.ChangeShapes Go.WideShapes Go.ChangeAt Go.RowKit
set_option linter.unusedVariables false

def icells (ds : List Nat) : List Value := ds.map fun (d : Nat) => Value.int .i64 (d : Int)
def OwnI (w : World) (B : Nat) (v : Value) (ds : List Nat) : Prop := w.ownsRow B 3 1 v ds.length (icells ds)

theorem OwnI.cell {w : World} {B g n cp : Nat} {ds : List Nat} (h : OwnI w B (.slice (some ⟨g, 0, none⟩) n cp) ds) (hl : ds.length = n) (j : Nat) (hj : j < n) : w.cell? ⟨g, j, none⟩ = some (.int .i64 ((ds.getD j 0 : Nat) : Int)) := by
  subst hl
  rw [World.ownsRow.cellAt h j (by omega)]
  simp [icells, hj]

theorem OwnI.frozen {w : World} {B g n cp : Nat} {ds : List Nat} (h : OwnI w B (.slice (some ⟨g, 0, none⟩) n cp) ds) (hl : ds.length = n) (j : Nat) : w.frozen? ⟨g, j, none⟩ = false := by
  subst hl
  exact World.ownsRow.frozenAt h j

theorem OwnI.stored {w : World} {B g n cp : Nat} {ds : List Nat} (h : OwnI w B (.slice (some ⟨g, 0, none⟩) n cp) ds) (hl : ds.length = n) (j x : Nat) : OwnI (w.setCell ⟨g, j, none⟩ (.int .i64 (x : Int))) B (.slice (some ⟨g, 0, none⟩) n cp) (ds.set j x) := by
  subst hl
  have := (World.ownsRow.stored h j (.int .i64 (x : Int))).1
  unfold OwnI icells
  rw [List.length_set, List.map_set]
  exact this

theorem Yba.info3c : (Yba.prog.info? 3).map (fun i => (i.zero, i.size, i.bytes)) = some (some (.int .i64 0), 1, 8) := by kernel_rfl

def mkI (n : Nat) : Array Value := madeCells #[.int .i64 0] n
def mkB (n : Nat) : Array Value := madeCells #[.int .u8 0] n

theorem make_ints (n : Nat) (hn : n ≤ 1024) (w : World) : (Instr.makeSlice 53 (.int .i64 (n : Int)) (.int .i64 (n : Int))).run Yba.prog w = .ok (.slice (some ⟨w.heap.size, 0, none⟩) n n) (w.alloc (.cells (mkI n) 3)) := by
  obtain ⟨i0, hi, hz0, hz1, hz2⟩ := info_parts Yba.info3c
  have := run_make (P := Yba.prog) w 53 3 i0 _ (by kernel_rfl) hi hz0 .i64 .i64 n n (by omega) (by omega) (by rw [hz2]; omega) (by omega)
  rw [hz1] at this
  simpa [mkI, Value.cells] using this

theorem make_bytes (n : Nat) (hn : n ≤ 2048) (w : World) : (Instr.makeSlice 33 (.int .i64 (n : Int)) (.int .i64 (n : Int))).run Yba.prog w = .ok (.slice (some ⟨w.heap.size, 0, none⟩) n n) (w.alloc (.cells (mkB n) 5)) := by
  obtain ⟨i0, hi, hz0, hz1, hz2⟩ := info_parts Yba.info5c
  have := run_make (P := Yba.prog) w 33 5 i0 _ Yba.underlying33 hi hz0 .i64 .i64 n n (by omega) (by omega) (by rw [hz2]; omega) (by omega)
  rw [hz1] at this
  simpa [mkB, Value.cells] using this

theorem own_ints (w : World) (B n : Nat) (hb : B ≤ w.heap.size) (hn : n ≤ 1024) : OwnI (w.alloc (.cells (mkI n) 3)) B (.slice (some ⟨w.heap.size, 0, none⟩) n n) (List.replicate n 0) := by
  have h := World.ownsRow_lit (base := B) (e := 3) (size := 1) w (mkI n) n hb (by unfold maxLen; omega) (by simp [mkI, madeCells])
  unfold OwnI
  rw [List.length_replicate]
  have e : (mkI n).toList = icells (List.replicate n 0) := by rw [mkI, toList_madeCells_one]; simp [icells]
  rwa [e] at h

theorem own_bytes (w : World) (B n : Nat) (hb : B ≤ w.heap.size) (hn : n ≤ 2048) : Own (w.alloc (.cells (mkB n) 5)) B (.slice (some ⟨w.heap.size, 0, none⟩) n n) (List.replicate n 0) := by
  have h := World.ownsRow_lit (base := B) (e := 5) (size := 1) w (mkB n) n hb (by unfold maxLen; omega) (by simp [mkB, madeCells])
  unfold Own
  rw [List.length_replicate]
  have e : (mkB n).toList = dcells (List.replicate n 0) := by rw [mkB, toList_madeCells_one]; simp [dcells]
  rwa [e] at h

theorem wrap_sum (x u v m : Nat) (hm : (u : Int) * (v : Int) = (m : Int)) (hx : x ≤ 15552) (h1 : m ≤ 81) (hu : u < 10) (hv : v < 10) : wrap64 ((x : Int) + wrap64 (wrap64 (u : Int) * wrap64 (v : Int))) = ((x + m : Nat) : Int) := by
  have e1 : wrap64 (u : Int) = u := by unfold wrap64; omega
  have e2 : wrap64 (v : Int) = v := by unfold wrap64; omega
  rw [e1, e2, hm]
  have e3 : wrap64 (m : Int) = m := by unfold wrap64; omega
  rw [e3]
  unfold wrap64
  omega

set_option maxHeartbeats 4000000 in
theorem mul_some (ga gb la lb ca cb n B0 : Nat) (av bv : List Nat) (w : World) (hla : av.length = la) (hlb : bv.length = lb) (a1 : 1 ≤ la) (a2 : la ≤ 192) (b1 : 1 ≤ lb) (b2 : lb ≤ 128)
    (hn : (la : Int) + (lb : Int) = (n : Int)) (hA : Own w B0 (.slice (some ⟨ga, 0, none⟩) la ca) av) (hB : Own w B0 (.slice (some ⟨gb, 0, none⟩) lb cb) bv) (dA : ∀ d ∈ av, d < 10) (dB : ∀ d ∈ bv, d < 10) :
    Calls Yba.prog 9 #[.slice (some ⟨ga, 0, none⟩) la ca, .slice (some ⟨gb, 0, none⟩) lb cb] w fun e w' => ∃ v ds, e = .returned v ∧ Own w' w.heap.size v ds ∧ (∀ d ∈ ds, d < 10) ∧ val ds = val av * val bv ∧ ds.length = n ∧ Below w.heap.size w w' := by
  have n1 : n ≤ 320 := by omega
  have hmi := make_ints n (by omega)
  have hmb := make_bytes n (by omega)
  have q1 : ((la : Int) == 0) = false := beq_eq_false_iff_ne.2 (by omega)
  have q2 : ((lb : Int) == 0) = false := beq_eq_false_iff_ne.2 (by omega)
  have HA := hidd hA
  have HB := hidd hB
  clear hA hB
  go_enter Yba.func9, Yba.ntmps9
  go_wp2
  go_loopg [6] la (fun k s6 wr => ∃ (i : Nat) (acc : List Nat), s6 = .int .i64 i ∧ i ≤ la ∧ k = la - i ∧ Hid (acc.length = n ∧ OwnI wr w.heap.size (.slice (some ⟨w.heap.size, 0, none⟩) n n) acc ∧ Prd0 av bv acc i ∧ Below w.heap.size w wr))
  case atStart => exact ⟨0, List.replicate n 0, rfl, Nat.zero_le _, rfl, ⟨List.length_replicate, own_ints _ _ _ (Nat.le_refl _) (by omega), Prd0.start _ _ _, (Below.refl _ _).alloc (Nat.le_refl _) _⟩⟩
  case round =>
    obtain ⟨i, acc, rfl, hil, rfl, H⟩ := hrel
    by_cases hi' : i < la
    · go_wp2
      obtain ⟨wo, hwo⟩ : ∃ wo : World, wo = wr := ⟨_, rfl⟩
      subst hwo
      go_loopg [7] lb (fun k s7 wb => ∃ (j : Nat) (acc : List Nat), s7 = .int .i64 j ∧ j ≤ lb ∧ k = lb - j ∧ Hid (acc.length = n ∧ OwnI wb w.heap.size (.slice (some ⟨w.heap.size, 0, none⟩) n n) acc ∧ Prd av bv acc i j ∧ Below w.heap.size w wb))
      case atStart =>
        obtain ⟨h1, h2, h3, h4⟩ := H.out
        exact ⟨0, acc, rfl, Nat.zero_le _, rfl, ⟨h1, h2, h3.enter, h4⟩⟩
      case round =>
        clear H
        obtain ⟨j, acc, rfl, hjl, rfl, H⟩ := hrel
        by_cases hj' : j < lb
        · obtain ⟨k, hk⟩ : ∃ k : Nat, (i : Int) + (j : Int) = (k : Int) := ⟨i + j, by omega⟩
          have hkn : k < n := by omega
          have hk2 := hidd (show i + j = k by omega)
          have ca1 : wr.cell? ⟨ga, i, none⟩ = some (.int .u8 ((av.getD i 0 : Nat) : Int)) := by
            rw [H.out.2.2.2.cell (p := ⟨ga, i, none⟩) HA.out.base.2]; exact HA.out.cell hla i hi'
          have cb1 : wr.cell? ⟨gb, j, none⟩ = some (.int .u8 ((bv.getD j 0 : Nat) : Int)) := by
            rw [H.out.2.2.2.cell (p := ⟨gb, j, none⟩) HB.out.base.2]; exact HB.out.cell hlb j hj'
          have cc1 := H.out.2.1.cell H.out.1 k hkn
          have cc2 := H.out.2.1.frozen H.out.1 k
          have bx : acc.getD k 0 ≤ 15552 := by have := H.out.2.2.1.all k; omega
          have da := getD_lt dA i
          have db := getD_lt dB j
          obtain ⟨x, hx⟩ : ∃ x, acc.getD k 0 = x := ⟨_, rfl⟩
          obtain ⟨u, hu⟩ : ∃ u, av.getD i 0 = u := ⟨_, rfl⟩
          obtain ⟨v, hv⟩ : ∃ v, bv.getD j 0 = v := ⟨_, rfl⟩
          rw [hx] at cc1 bx
          rw [hu] at ca1 da
          rw [hv] at cb1 db
          obtain ⟨m, hm⟩ : ∃ m : Nat, (u : Int) * (v : Int) = (m : Int) := ⟨u * v, by simp⟩
          have hm2 : u * v = m := by have : ((u * v : Nat) : Int) = (m : Int) := by rw [Int.natCast_mul]; exact hm
                                     exact Int.ofNat.inj this
          have hm1 : m ≤ 81 := by rw [← hm2]; exact Nat.mul_le_mul (show u ≤ 9 by omega) (show v ≤ 9 by omega)
          have E := hidd (show acc.getD k 0 = x ∧ av.getD i 0 = u ∧ bv.getD j 0 = v ∧ u * v = m from ⟨hx, hu, hv, hm2⟩)
          have hwv := wrap_sum x u v m hm bx hm1 (by omega) (by omega)
          have HW := hidd hwv
          clear hx hu hv hm2 da db hwv
          go_wp2
          go_region
          go_wp2
          go_roundg (lb - (j + 1))
          case measure => omega
          case rel =>
            obtain ⟨h1, h2, h3, h4⟩ := H.out
            obtain ⟨e1, e2, e3, e4⟩ := E.out
            have h5 := h3.step (by rw [hk2.out, h1]; exact hkn) (hlb ▸ hj') (getD_lt dA i) (getD_lt dB j)
            rw [hk2.out, e1, e2, e3, e4] at h5
            rw [HW.out]
            exact ⟨j + 1, acc.set k (x + m), rfl, hj', rfl, ⟨by rw [List.length_set, h1], h2.stored h1 k (x + m), h5, (h4.setCell (p := ⟨w.heap.size, k, none⟩) (Nat.le_refl _) _).drew⟩⟩
        · obtain rfl : j = lb := by omega
          go_wp2
          go_roundg (la - (i + 1))
          case measure => omega
          case rel =>
            obtain ⟨h1, h2, h3, h4⟩ := H.out
            exact ⟨i + 1, acc, rfl, hi', rfl, ⟨h1, h2, (hlb ▸ h3).leave (hla ▸ hi'), h4⟩⟩
    · obtain rfl : i = la := by omega
      have hbw : w.heap.size ≤ wr.heap.size := H.out.2.2.2.size
      have hlt : w.heap.size < wr.heap.size := (World.ownsRow.lt H.out.2.1 _ rfl).2
      go_wp2
      obtain ⟨wm, hwm⟩ : ∃ wm : World, wm = wr := ⟨_, rfl⟩
      subst hwm
      go_loopg [9, 10] n (fun k s9 s10 wx => ∃ (p c : Nat) (out : List Nat), s10 = .int .i64 p ∧ s9 = .int .i64 c ∧ p ≤ n ∧ k = n - p ∧ c ≤ 15552 ∧ Hid (out.length = n ∧ Own wx w.heap.size (.slice (some ⟨wm.heap.size, 0, none⟩) n n) out ∧ (∀ d ∈ out, d < 10) ∧ OwnI wx w.heap.size (.slice (some ⟨w.heap.size, 0, none⟩) n n) acc ∧ Car acc out p c (val acc) ∧ Below w.heap.size w wx))
      case atStart =>
        obtain ⟨h1, h2, h3, h4⟩ := H.out
        exact ⟨0, 0, List.replicate n 0, rfl, rfl, Nat.zero_le _, rfl, by omega, ⟨List.length_replicate, own_bytes _ _ _ hbw (by omega), by intro d hd; rw [List.eq_of_mem_replicate hd]; decide, h2.alloc _, Car.start _ _, h4.alloc hbw _⟩⟩
      case round =>
        obtain ⟨p, cr, out, rfl, rfl, hp, rfl, hcr, G⟩ := hrel
        by_cases hp' : p < n
        · have cc1 := G.out.2.2.2.1.cell H.out.1 p hp'
          have cc2 := G.out.2.1.cell G.out.1 p hp'
          have cc3 := G.out.2.1.frozen G.out.1 p
          have bx : acc.getD p 0 ≤ 15552 := by have := H.out.2.2.1.all p; omega
          obtain ⟨x, hx⟩ : ∃ x, acc.getD p 0 = x := ⟨_, rfl⟩
          obtain ⟨y, hy⟩ : ∃ y, out.getD p 0 = y := ⟨_, rfl⟩
          rw [hx] at cc1 bx
          rw [hy] at cc2
          have E := hidd hx
          clear hx hy
          go_wp2
          go_roundg (n - (p + 1))
          case measure => omega
          case rel =>
            obtain ⟨h1, h2, h3, h4, h5, h6⟩ := G.out
            have h7 := h5.step (by rw [H.out.1]; exact hp') (by rw [h1]; exact hp')
            rw [E.out] at h7
            have hst := h2.stored h1 p ((x + cr) % 10)
            have hgr := (World.ownsRow.stored (by have := h2; unfold Own at this; rw [h1] at this; exact this) p (.int .u8 (((x + cr) % 10 : Nat) : Int))).2
            refine ⟨p + 1, (x + cr) / 10, out.set p ((x + cr) % 10), rfl, rfl, hp', rfl, by omega, ⟨by rw [List.length_set, h1], ?_, mem_set h3 (by omega), ?_, h7, ?_⟩⟩
            · exact hst
            · exact World.ownsRow.kept h4 hgr (.inr (by simp [Value.ownBlock]; omega))
            · exact h6.setCell (p := ⟨wm.heap.size, p, none⟩) hbw _
        · obtain rfl : p = n := by omega
          go_wp2
          go_ret
          obtain ⟨h1, h2, h3, h4, h5, h6⟩ := G.out
          obtain ⟨k1, k2, k3, k4⟩ := H.out
          have he : val acc = val av * val bv := by rw [k3.eq, ← hla, List.take_length]
          have hlt2 := prod_lt dA dB
          refine ⟨_, out, rfl, h2, h3, ?_, h1, h6⟩
          rw [h5.done k1 h1 (by rw [he, show p = av.length + bv.length by omega]; exact hlt2), he]

theorem mul_nil1 (a b : Option Addr) (ca lb cb : Nat) (w : World) : Calls Yba.prog 9 #[.slice a 0 ca, .slice b lb cb] w fun e w' => e = .returned (.slice none 0 0) ∧ w' = w := by
  go_enter Yba.func9, Yba.ntmps9
  go_wp2
  go_ret
  exact ⟨rfl, rfl⟩

theorem mul_nil2 (a b : Option Addr) (la ca cb : Nat) (h : 1 ≤ la) (w : World) : Calls Yba.prog 9 #[.slice a la ca, .slice b 0 cb] w fun e w' => e = .returned (.slice none 0 0) ∧ w' = w := by
  have q1 : ((la : Int) == 0) = false := beq_eq_false_iff_ne.2 (by omega)
  go_enter Yba.func9, Yba.ntmps9
  go_wp2
  go_ret
  exact ⟨rfl, rfl⟩

/-- The schoolbook product of two rows of digits. -/
theorem mul_walk (va vb : Value) (B0 : Nat) (av bv : List Nat) (w : World) (a2 : av.length ≤ 192) (b2 : bv.length ≤ 128) (hA : Own w B0 va av) (hB : Own w B0 vb bv) (dA : ∀ d ∈ av, d < 10) (dB : ∀ d ∈ bv, d < 10) :
    Calls Yba.prog 9 #[va, vb] w fun e w' => ∃ v ds, e = .returned v ∧ Own w' w.heap.size v ds ∧ (∀ d ∈ ds, d < 10) ∧ val ds = val av * val bv ∧ ds.length ≤ 320 ∧ Below w.heap.size w w' := by
  obtain ⟨a, ca, rfl, hfa⟩ := hA.form
  obtain ⟨b, cb, rfl, hfb⟩ := hB.form
  by_cases ha : av.length = 0
  · have : av = [] := List.length_eq_zero_iff.1 ha
    subst this
    refine (mul_nil1 a b ca _ cb w).mono ?_
    rintro e w' ⟨rfl, rfl⟩
    exact ⟨_, [], rfl, Own.nil _ _, by simp, by simp [val], by simp, Below.refl _ _⟩
  by_cases hb : bv.length = 0
  · have : bv = [] := List.length_eq_zero_iff.1 hb
    subst this
    refine (mul_nil2 a b _ ca cb (by omega) w).mono ?_
    rintro e w' ⟨rfl, rfl⟩
    exact ⟨_, [], rfl, Own.nil _ _, by simp, by simp [val], by simp, Below.refl _ _⟩
  rcases hfa with ⟨_, h⟩ | ⟨ga, rfl⟩
  · exact absurd (h ▸ rfl) ha
  rcases hfb with ⟨_, h⟩ | ⟨gb, rfl⟩
  · exact absurd (h ▸ rfl) hb
  refine (mul_some ga gb _ _ ca cb (av.length + bv.length) B0 av bv w rfl rfl (by omega) a2 (by omega) b2 (by simp) hA hB dA dB).mono ?_
  rintro e w' ⟨v, ds, h1, h2, h3, h4, h5, h6⟩
  exact ⟨v, ds, h1, h2, h3, h4, by omega, h6⟩

end Go.Proofs.Ybulkaopw
