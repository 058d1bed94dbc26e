import Derived.Test.YbulkaoouDrain0
import Derived.Test.YbulkaoouHpop
namespace Go.Proofs.Ybulkaoou
open Go.ChangeShapes Go.WideShapes Go.ChangeAt Go.RowKit
set_option linter.unusedVariables false

theorem Yba.info4 : (Yba.prog.info? 4).map (fun i => (i.zero, i.size, i.bytes)) = some (some (.bool false), 1, 1) := by kernel_rfl
/-- n marks, all false. -/
def mkS (n : Nat) : Array Value := madeCells #[.bool false] n
theorem make_seen (n : Nat) (hn : n ≤ 1024) (w : World) : (Instr.makeSlice 49 (.int .i64 (n : Int)) (.int .i64 (n : Int))).run Yba.prog w = .ok (.slice (some ⟨w.heap.size, 0, none⟩) n n) (w.alloc (.cells (mkS n) 4)) := by
  obtain ⟨i0, hi, hz0, hz1, hz2⟩ := info_parts Yba.info4
  have := run_make (P := Yba.prog) w 49 4 i0 _ Yba.underlying49 hi hz0 .i64 .i64 n n (by omega) (by omega) (by rw [hz2]; omega) (by omega)
  rw [hz1] at this
  simpa [mkS, Value.cells] using this

set_option maxRecDepth 100000 in
theorem drain_big (a0 : Option Addr) (n c : Nat) (a1 : Int) (w : World) (hn : 1024 < n) (hm : n ≤ maxLen) :
    Calls Yba.prog 4 #[.slice a0 n c, .int .u8 a1] w fun e w' => e = .returned (.bool true) ∧ Below w.heap.size w w' := by
  unfold maxLen at hm
  go_enter Yba.func4, Yba.ntmps4
  go_wp2
  go_ret
  exact ⟨rfl, Below.refl _ _⟩

/-- k orders pushed. -/
structure Pushed (w wr : World) (kd n : Nat) (f : Nat → Int) (k : Nat) (ob : Nat → Nat) (v : Value) (ss : List Nat) : Prop where
  inv : Inv w wr w.heap.size w.heap.size kd ob k f v ss
  len : ss.length = k
  heap : HeapOk f ss k
  inj : ∀ i j, i < ss.length → j < ss.length → at0 ss i = at0 ss j → i = j

theorem Pushed.push {w wr : World} {kd n k : Nat} {f : Nat → Int} {ob : Nat → Nat} {v : Value} {ss : List Nat} (hP : Pushed w wr kd n f k ob v ss) (hlt : k < n) (hn : n ≤ 1024) (hk2 : kd ≤ 1) (X : Array Value) (hX : X.size = 20) (h12 : X[12]? = some (.int .u64 k)) :
    Calls Yba.prog 6 #[.pointer (some ⟨w.heap.size, 0, none⟩), .pointer (some ⟨wr.heap.size, 0, none⟩), .int .u64 (f k)] (wr.alloc (.cells X 39)) fun e w' => e = .returned (.tuple #[]) ∧ ∃ ob' v' ss', Pushed w w' kd n f (k + 1) ob' v' ss' := by
  have hsz := hP.inv.below.size
  have hl := hP.len
  have hN := hP.inv.newOrder hsz X hX h12
  have hnew : ∀ i, i < ss.length → at0 ss i ≠ k := fun i hi => Nat.ne_of_lt (hP.inv.lt i hi)
  have := push_any ss (wr.alloc (.cells X 39)) k hk2 (by omega) (by omega) (by simp; omega) hN hP.inj hnew (by rw [hl]; exact hP.heap)
  rw [upd_same] at this
  refine this.mono ?_
  rintro e w' ⟨rfl, v', ss', hI, hR, hH⟩
  have hl' : ss'.length = k + 1 := by rw [hR.len]; simp [hl]
  exact ⟨rfl, _, v', ss', hI, hl', by rw [hl] at hH; exact hH, hR.inj (inj_snoc hP.inj hnew)⟩

/-- The state of the draining loop, k orders drained: S: the row of marks, p: the last limit. -/
structure Drained (w wr : World) (kd n S : Nat) (f : Nat → Int) (k : Nat) (p : Int) (ob : Nat → Nat) (v : Value) (ss : List Nat) (cs : Array Value) (sn : Nat → Bool) : Prop where
  below : Below w.heap.size w wr
  inv : Inv wr wr w.heap.size w.heap.size kd ob n f v ss
  len : ss.length + k = n
  heap : HeapOk f ss ss.length
  inj : ∀ i j, i < ss.length → j < ss.length → at0 ss i = at0 ss j → i = j
  seen : wr.heap[S]? = some (.cells cs 4 (0, 0))
  size : cs.size = n
  mark : ∀ s, s < n → cs[s]? = some (.bool (sn s))
  fresh : ∀ i, i < ss.length → sn (at0 ss i) = false
  low : 0 < k → ∀ i, i < ss.length → p ≤ f (at0 ss i)
  sB : w.heap.size ≤ S

theorem Pushed.drain {w wr : World} {kd n : Nat} {f : Nat → Int} {ob : Nat → Nat} {v : Value} {ss : List Nat} (hP : Pushed w wr kd n f n ob v ss) :
    Drained w (wr.alloc (.cells (mkS n) 4)) kd n wr.heap.size f 0 0 ob v ss (mkS n) (fun _ => false) := by
  have hl := hP.len
  refine ⟨hP.inv.below.alloc hP.inv.below.size _, hP.inv.madeSeen _, by omega, by rw [hl]; exact hP.heap, hP.inj, heap_alloc_new wr _, by simp [mkS, madeCells], fun s hs => by simp [mkS, madeCells, hs, Nat.mod_one], fun _ _ => rfl, fun h => by omega, hP.inv.below.size⟩

/-- One order drained. -/
structure Next (w wr w' : World) (kd n S : Nat) (f : Nat → Int) (k : Nat) (ob : Nat → Nat) (ss : List Nat) (cs : Array Value) (sn : Nat → Bool) : Prop where
  neg : w'.cell? ⟨ob (at0 ss 0), 18 + kd, none⟩ = some (.int .i32 (-1))
  seq : w'.cell? ⟨ob (at0 ss 0), 12, none⟩ = some (.int .u64 (at0 ss 0))
  lt : at0 ss 0 < n
  mark : w'.cell? ⟨S, at0 ss 0, none⟩ = some (.bool false)
  markF : w'.frozen? ⟨S, at0 ss 0, none⟩ = false
  ne : S ≠ ob (at0 ss 0)
  below : Below w.heap.size w w'
  next : ∃ v' ss', Drained w (w'.setCell ⟨S, at0 ss 0, none⟩ (.bool true)) kd n S f (k + 1) (f (at0 ss 0)) ob v' ss' (cs.setIfInBounds (at0 ss 0) (.bool true)) (fun s => if s = at0 ss 0 then true else sn s)

theorem Drained.pop {w wr : World} {kd n S k : Nat} {f : Nat → Int} {p : Int} {ob : Nat → Nat} {v : Value} {ss : List Nat} {cs : Array Value} {sn : Nat → Bool} (hD : Drained w wr kd n S f k p ob v ss cs sn) (hlt : k < n) (hn : n ≤ 1024) (hk2 : kd ≤ 1) :
    Calls Yba.prog 8 #[.iface 42 (.pointer (some ⟨w.heap.size, 0, none⟩))] wr fun e w' => e = .returned (.iface 26 (.pointer (some ⟨ob (at0 ss 0), 0, none⟩))) ∧ Next w wr w' kd n S f k ob ss cs sn := by
  have hl := hD.len
  obtain ⟨m, hm⟩ : ∃ m, ss.length = m + 1 := ⟨ss.length - 1, by omega⟩
  refine (hpop_any ss wr m hk2 (by omega) hm hD.inv hD.inj hD.heap).mono ?_
  rintro e w' ⟨rfl, hneg, v', ss', hI, hl', hH, hinj, hall⟩
  have hr : at0 ss 0 < n := hD.inv.lt 0 (by omega)
  have hS' := hI.side S cs hD.seen
  have hc : w'.cell? ⟨S, at0 ss 0, none⟩ = some (.bool false) := by
    have h1 := hD.mark _ hr
    rw [hD.fresh 0 (by omega)] at h1
    simpa [World.cell?, hS'] using h1
  have hbel : Below w.heap.size w w' := hD.below.trans hI.below
  refine ⟨rfl, hneg, hI.seq hr, hr, hc, by simp [World.frozen?, hS'], (hI.seenNe hS').2.1 _ hr, hbel, v', ss', ?_⟩
  refine ⟨hbel.setCell hD.sB _, hI.setSeen hS' _ _, by omega, by rw [hl']; exact hH, hinj, heap_setCell_same w' S _ cs 4 _ hS', by simpa using hD.size, fun s hs => ?_, fun i hi => ?_, fun _ i hi => ?_, hD.sB⟩
  · by_cases e : s = at0 ss 0
    · subst e; rw [if_pos rfl, Array.getElem?_setIfInBounds_self_of_lt (by rw [hD.size]; exact hr)]
    · rw [if_neg e, Array.getElem?_setIfInBounds_ne (fun h => e h.symm)]; exact hD.mark s hs
  · rw [hl'] at hi
    refine hall (fun x => (if x = at0 ss 0 then true else sn x) = false) (fun j h0 hj => ?_) i hi
    rw [if_neg (fun e => by have := hD.inj j 0 hj (by omega) e; omega)]; exact hD.fresh j hj
  · rw [hl'] at hi
    exact hall (fun x => f (at0 ss 0) ≤ f x) (fun j h0 hj => root_min hD.heap j j (Nat.le_refl _) hj) i hi

set_option maxRecDepth 100000 in
set_option maxHeartbeats 1600000 in
theorem drain_walk (b off n c : Nat) (zs : List Int) (a1 : Int) (kd : Nat) (hkd : a1 % 2 = (kd : Int)) (hk2 : kd ≤ 1) (w : World) (hn : n ≤ 1024) (hb : b < w.heap.size) (h1 : 0 ≤ a1) (h1' : a1 ≤ 255)
    (hc : ∀ j, j < n → w.cell? ⟨b, off + j, none⟩ = some (.int .u64 (zs.getD j 0))) :
    Calls Yba.prog 4 #[.slice (some ⟨b, off, none⟩) n c, .int .u8 a1] w fun e w' => e = .returned (.bool true) ∧ Below w.heap.size w w' := by
  have hm1 := make_seen n hn
  have ha := as_order
  obtain ⟨f, hf⟩ : ∃ f : Nat → Int, ∀ s, zs.getD s 0 = f s := ⟨fun s => zs.getD s 0, fun _ => rfl⟩
  have HC : Hid (∀ j, j < n → w.cell? ⟨b, off + j, none⟩ = some (.int .u64 (f j))) := fun j hj => by rw [← hf]; exact hc j hj
  have hq2 : decide ((1024 : Int) < (n : Int)) = false := decide_eq_false (by omega)
  clear hc hf
  go_enter Yba.func4, Yba.ntmps4
  go_wp2
  rw [hkd]
  clear hkd
  go_loopw [8] (fun t wr => ∃ (k : Nat) (ob : Nat → Nat) (v : Value) (ss : List Nat), t = .int .i64 k ∧ k ≤ n ∧ Pushed w wr kd n f k ob v ss) (fun t _ => n - (intOf t).toNat)
  case atStart => exact ⟨0, fun _ => 0, _, [], rfl, Nat.zero_le _, ⟨Inv.begin w kd _ f, rfl, fun j h0 hj => by omega, fun i j hi => by simp at hi⟩⟩
  case round =>
    obtain ⟨k, ob, v, ss, rfl, hk, hP⟩ := hrel
    by_cases hlt : k < n
    · have hcell : wr.cell? ⟨b, off + k, none⟩ = some (.int .u64 (f k)) := (hP.inv.below.cell (p := ⟨b, off + k, none⟩) hb).trans (HC.out k hlt)
      have hsz := hP.inv.below.size
      have hbr : b < wr.heap.size := by omega
      have HP := hidd hP
      clear hP hm1
      go_wp2_with fail
      refine (HP.out.push hlt hn hk2 _ ?x1 ?x2).mono ?_
      case x1 => rfl
      case x2 => rfl
      rintro e w1 ⟨rfl, ob', v', ss', hP'⟩
      have HP' := hidd hP'
      clear hP' HP
      go_wp2
      go_roundw
      case rel => exact ⟨k + 1, ob', v', ss', by go_num, by omega, HP'.out⟩
      case measure => simp [intOf]; omega
    · obtain rfl : k = n := by omega
      have hD := hP.drain
      have HD0 := hidd hD
      clear hP hD hlt
      go_wp2
      clear hm1
      obtain ⟨w1, hw1⟩ : ∃ w1, w1 = wr.alloc (.cells (mkS k) 4) := ⟨_, rfl⟩
      generalize wr.heap.size = S at *
      go_loopw [11, 12] (fun pv t wx => ∃ (j : Nat) (p : Int) (v : Value) (ss : List Nat) (cs : Array Value) (sn : Nat → Bool), pv = .int .u64 p ∧ t = .int .i64 j ∧ j ≤ k ∧ Drained w wx kd k S f j p ob v ss cs sn) (fun _ t _ => k - (intOf t).toNat)
      case atStart => exact ⟨0, 0, v, ss, _, _, rfl, rfl, Nat.zero_le _, HD0.out⟩
      case round =>
        clear HD0 hw1 w1 v ss
        obtain ⟨j, p, v, ss, cs, sn, rfl, rfl, hj, hD⟩ := hrel
        have hlen := hD.len
        have L := hidd hD.inv.callLen
        by_cases hlt : j < k
        · have hb1 : (((ss.length : Nat) : Int) != (k : Int) - (j : Int)) = false := by rw [bne_eq_false_iff_eq]; omega
          have P := hidd (hD.pop hlt hn hk2)
          have hlow : Hid (0 < j → p ≤ f (at0 ss 0)) := fun h => hD.low h 0 (by omega)
          have hbS : b < S := Nat.lt_of_lt_of_le hb hD.sB
          clear hD hlen
          go_wp2_with fail
          refine L.out.mono ?_
          rintro e w2 ⟨rfl, rfl⟩
          clear L
          go_wp2_with fail
          refine P.out.mono ?_
          rintro e w3 ⟨rfl, hN⟩
          have hcell : w3.cell? ⟨b, off + at0 ss 0, none⟩ = some (.int .u64 (f (at0 ss 0))) := (hN.below.cell (p := ⟨b, off + at0 ss 0, none⟩) hb).trans (HC.out _ hN.lt)
          have n1 := hN.neg
          have n2 := hN.seq
          have n3 : ((at0 ss 0 : Nat) : Int) < (k : Int) := by have := hN.lt; omega
          have n4 := hN.mark
          have n5 := hN.markF
          have n6 := hN.ne
          have HX := hidd hN.next
          clear P hN
          generalize at0 ss 0 = r at *
          by_cases hj0 : 0 < j
          · have hg : decide ((0 : Int) < (j : Int)) = true := decide_eq_true (by omega)
            have hl : decide (f r < p) = false := decide_eq_false (by have := hlow.out hj0; omega)
            clear hlow
            go_wp2
            obtain ⟨v', ss', hX⟩ := HX.out
            go_roundw
            case rel => exact ⟨j + 1, f r, v', ss', _, _, rfl, by go_num, by omega, hX⟩
            case measure => simp [intOf]; omega
          · have hg : decide ((0 : Int) < (j : Int)) = false := decide_eq_false (by omega)
            clear hlow
            go_wp2
            obtain ⟨v', ss', hX⟩ := HX.out
            go_roundw
            case rel => exact ⟨j + 1, f r, v', ss', _, _, rfl, by go_num, by omega, hX⟩
            case measure => simp [intOf]; omega
        · have hb0 : (((ss.length : Nat) : Int) == 0) = true := by rw [beq_iff_eq]; omega
          have hbel := hD.below
          clear hD hlen
          go_wp2_with fail
          refine L.out.mono ?_
          rintro e w2 ⟨rfl, rfl⟩
          clear L
          go_wp2
          go_ret
          exact ⟨rfl, hbel⟩

set_option maxRecDepth 100000 in
set_option maxHeartbeats 1000000 in
theorem drain_none (a0 : Option Addr) (c : Nat) (a1 : Int) (w : World) (h1 : 0 ≤ a1) (h1' : a1 ≤ 255) :
    Calls Yba.prog 4 #[.slice a0 0 c, .int .u8 a1] w fun e w' => e = .returned (.bool true) ∧ Below w.heap.size w w' := by
  have hm1 : ∀ w : World, (Instr.makeSlice 49 (.int .i64 0) (.int .i64 0)).run Yba.prog w = .ok (.slice (some ⟨w.heap.size, 0, none⟩) 0 0) (w.alloc (.cells (mkS 0) 4)) := by simpa using make_seen 0 (by omega)
  go_enter Yba.func4, Yba.ntmps4
  go_wp2
  go_loop [8] (fun t => t = .int .i64 0) (fun t => 0)
  case atStart => rfl
  case round =>
    subst hrel
    go_wp2
    go_loop [12] (fun t => t = .int .i64 0) (fun t => 0)
    case atStart => rfl
    case round =>
      subst hrel
      go_wp2_with (go_at_call 7; refine (lenfn _ 0 0 none _ ?_).mono ?_; go_simp; rintro e w' ⟨rfl, rfl⟩)
      go_ret
      exact ⟨rfl, ((Below.refl _ _).alloc (Nat.le_refl _) _).alloc (by simp) _⟩
end Go.Proofs.Ybulkaoou
