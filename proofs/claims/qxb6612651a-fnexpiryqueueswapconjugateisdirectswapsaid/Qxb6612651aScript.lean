import Derived.Test.Qxb6612651aBase
namespace Go.Proofs.Qxb6612651a.eq
open Go.ChangeShapes Go.WideShapes Go.ChangeAt Go.RowKit
set_option linter.unusedSimpArgs false

theorem flipC {P : Program} {f : FuncId} {a : Array Value} {w : World} {v : Value} (h : Calls P f a w fun e w' => e = .returned v ∧ w' = w) : Calls P f a w fun e w' => e = .returned v ∧ w = w' := h.mono fun _ _ h => ⟨h.1, h.2.symm⟩
theorem z5 (a0 a1 a2 : Option Addr) (n0 c0 n1 c1 n2 c2 : Nat) (w : World) (h0 : n0 ≤ maxLen) (h1 : n1 ≤ maxLen) (h2 : n2 ≤ maxLen) :
    Calls Try.prog 5 #[.slice a0 n0 c0, .slice a1 n1 c1, .slice a2 n2 c2] w fun e w' => (∃ b : Bool, e = .returned (.bool b)) ∧ w = w' := by
  unfold maxLen at h0 h1 h2
  go_enter Try.func5, Try.ntmps5
  go_wp2
  all_goals
    go_ret
    exact ⟨⟨_, rfl⟩, rfl⟩
theorem Try.info2 : (Try.prog.info? 2).map (fun i => (i.zero, i.size, i.bytes)) = some (some (.int .i64 0), 1, 8) := by kernel_rfl

/-! ### A QUEUE BESIDE OTHER MEMORY -/
/-- A row of numbers lies apart from the queue. -/
theorem Ch.own {g B B2 n c m k e : Nat} {ps : List Nat} {ts : List Int} {w w' : World} {xs : List Value} (h : Ch g ps w w') (q : Qu w B g n c ps ts) (ho : w.ownsRow B2 e 1 (.slice (some ⟨m, 0, none⟩) k k) k xs) (he : e ≠ 32 ∧ e ≠ 39) : w'.ownsRow B2 e 1 (.slice (some ⟨m, 0, none⟩) k k) k xs := by
  refine ⟨ho.1, ?_⟩
  rcases ho.2 with hh | ⟨g', cap', cur, hv, hb, hgg, r⟩
  · exact .inl hh
  · simp only [Value.slice.injEq, Option.some.injEq, Addr.mk.injEq, and_true, true_and] at hv
    obtain ⟨rfl, rfl⟩ := hv
    refine .inr ⟨_, _, cur, rfl, hb, ?_, r⟩
    rw [h.block m ?_ ?_]
    · exact hgg
    · intro e'; subst e'
      obtain ⟨_, c2, h2⟩ := own_obj q.own
      rw [h2] at hgg; simp at hgg; exact he.1 hgg.2.symm
    · intro hm
      obtain ⟨i, hi, e'⟩ := mem_getD hm
      have := q.ent i (by rw [← q.len]; exact hi)
      rw [e', hgg] at this
      simp [expObj] at this
      exact he.2 this.2
/-- Memory beside the queue's blocks has turned, or come. -/
theorem Qu.keep {B g n c : Nat} {ps : List Nat} {ts : List Int} {w w' : World} (q : Qu w B g n c ps ts) (hk : ∀ k o, (k = g ∨ k ∈ ps) → w.heap[k]? = some o → w'.heap[k]? = some o) : Qu w' B g n c ps ts := by
  refine ⟨⟨q.own.1, ?_⟩, fun k hk' => hk _ _ (.inr ?_) (q.ent k hk'), q.inj, q.lt, q.lo⟩
  · rcases q.own.2 with hh | ⟨g', cap', cur, hv, hb, hgg, r⟩
    · exact .inl hh
    · simp only [Value.slice.injEq, Option.some.injEq, Addr.mk.injEq, and_true, true_and] at hv
      obtain ⟨rfl, rfl⟩ := hv
      exact .inr ⟨_, _, cur, rfl, hb, hk _ _ (.inl rfl) hgg, r⟩
  · have := q.len
    simp [List.getD_eq_getElem?_getD, show k < ps.length by omega]
/-- A store into a row of numbers. -/
theorem Qu.setOther {B g n c B2 m k e o : Nat} {ps : List Nat} {ts : List Int} {w : World} {xs : List Value} (q : Qu w B g n c ps ts) (ho : w.ownsRow B2 e 1 (.slice (some ⟨m, 0, none⟩) k k) k xs) (he : e ≠ 32 ∧ e ≠ 39) (v : Value) : Qu (w.setCell ⟨m, o, none⟩ v) B g n c ps ts := by
  refine q.keep fun b ob hb h => ?_
  rw [sc _ _ _ _ _ ?_]
  · exact h
  · intro e'; subst e'
    obtain ⟨_, cur, hc⟩ := own_obj ho
    rcases hb with rfl | hm
    · obtain ⟨_, c2, h2⟩ := own_obj q.own
      rw [h2] at hc; simp at hc; exact he.1 hc.2.symm
    · obtain ⟨i, hi, e'⟩ := mem_getD hm
      have := q.ent i (by rw [← q.len]; exact hi)
      rw [e', hc] at this
      simp [expObj] at this
      exact he.2 this.2
theorem Qu.grown {B g n c : Nat} {ps : List Nat} {ts : List Int} {w w' : World} (q : Qu w B g n c ps ts) (h : w.grownBy w' none) : Qu w' B g n c ps ts :=
  q.keep fun b ob _ hb => by rw [h.block b (Array.getElem?_eq_some_iff.1 hb).1 (by simp)]; exact hb
theorem Qu.drewN {B g n c : Nat} {ps : List Nat} {ts : List Int} {w : World} (q : Qu w B g n c ps ts) (m : Nat) : Qu (w.drewN m) B g n c ps ts := ⟨q.own, q.ent, q.inj, q.lt, q.lo⟩
theorem Qu.look {B g n c : Nat} {ps : List Nat} {ts : List Int} {w : World} (q : Qu w B g n c ps ts) (k : Nat) (hk : k < n) :
    w.cell? ⟨g, k, none⟩ = some (.pointer (some ⟨ps.getD k 0, 0, none⟩)) ∧ w.cell? ⟨ps.getD k 0, 1, none⟩ = some (.int .i64 (ts.getD k 0)) ∧ w.cell? ⟨ps.getD k 0, 5, none⟩ = some (.int .i64 k) :=
  ⟨Row1 q.own k hk, exp_cell (q.ent k hk)⟩
theorem int_cell {w : World} {B e m n : Nat} {l : List Int} (h : w.ownsRow B e 1 (.slice (some ⟨m, 0, none⟩) n n) n (l.map (Value.int .i64))) (i : Nat) (hi : i < n) : w.cell? ⟨m, i, none⟩ = some (.int .i64 (l.getD i 0)) := by
  have hl : l.length = n := by simpa using h.1
  rw [h.cellAt i (by omega)]
  simp [List.getElem?_eq_getElem (by omega : i < l.length)]
/-- The model: behind k rounds of its building. -/
def mk (l : List Int) (k : Nat) : List Int := l.take k ++ List.replicate (l.length - k) 0
theorem mk_set (l : List Int) (k : Nat) (h : k < l.length) : ((mk l k).map (Value.int .i64)).set k (.int .i64 (l.getD k 0)) = (mk l (k + 1)).map (Value.int .i64) := by
  rw [← List.map_set]
  congr 1
  unfold mk
  rw [show l.length - k = (l.length - (k + 1)) + 1 by omega, List.replicate_succ, List.set_append_right _ _ (by simp; omega)]
  have e2 : l.take (k + 1) = l.take k ++ [l.getD k 0] := by rw [List.take_succ_eq_append_getElem h]; simp [List.getD_eq_getElem?_getD, h]
  rw [e2]
  simp [Nat.min_eq_left (Nat.le_of_lt h)]
theorem mk_full (l : List Int) : mk l l.length = l := by simp [mk]
theorem mk_zero (l : List Int) : (mk l 0).map (Value.int .i64) = List.replicate l.length (.int .i64 0) := by simp [mk]
theorem sw_map (l : List Int) (i j : Nat) : ((l.map (Value.int .i64)).set i (.int .i64 (l.getD j 0))).set j (.int .i64 (l.getD i 0)) = (sw 0 l i j).map (Value.int .i64) := by simp [sw, List.map_set]

/-- The state of the script: the queue and the model hold one list. -/
structure Sc (w W : World) (B m n : Nat) (ps : List Nat) (ts : List Int) : Prop where
  q : Qu W B B n n ps ts
  m : W.ownsRow B 2 1 (.slice (some ⟨m, 0, none⟩) n n) n (ts.map (Value.int .i64))
  b : Below w.heap.size w W
  lo : w.heap.size ≤ B
theorem Sc.drewN {w W : World} {B m n : Nat} {ps : List Nat} {ts : List Int} (s : Sc w W B m n ps ts) (k : Nat) : Sc w (W.drewN k) B m n ps ts := ⟨s.q.drewN k, s.m, ⟨s.b.os, s.b.tape, s.b.output, s.b.size, s.b.block⟩, s.lo⟩
/-- One step of the script: the queue has been swapped; then the model is. -/
theorem Sc.step {w W w1 : World} {B m n i j : Nat} {ps : List Nat} {ts : List Int} (s : Sc w W B m n ps ts) (hi : i < n) (hj : j < n) (h1 : Qu w1 B B n n (sw 0 ps i j) (sw 0 ts i j)) (h2 : Ch B ps W w1) :
    (w1.cell? ⟨m, i, none⟩ = some (.int .i64 (ts.getD i 0)) ∧ w1.cell? ⟨m, j, none⟩ = some (.int .i64 (ts.getD j 0)) ∧ (∀ o, w1.frozen? ⟨m, o, none⟩ = false)) ∧
    Sc w ((w1.setCell ⟨m, i, none⟩ (.int .i64 (ts.getD j 0))).setCell ⟨m, j, none⟩ (.int .i64 (ts.getD i 0))) B m n (sw 0 ps i j) (sw 0 ts i j) := by
  have hm := h2.own s.q s.m (by decide)
  have s1 := hm.stored i (.int .i64 (ts.getD j 0))
  have s2 := s1.1.stored j (.int .i64 (ts.getD i 0))
  have hb := h2.below s.q s.b s.lo
  have hmB := (own_obj s.m).1
  have lo := s.lo
  refine ⟨⟨int_cell hm i hi, int_cell hm j hj, fun o => hm.frozenAt o⟩, ⟨(h1.setOther hm (by decide) _).setOther s1.1 (by decide) _, by rw [← sw_map]; exact s2.1, (hb.setCell (by show w.heap.size ≤ m; omega) _).setCell (by show w.heap.size ≤ m; omega) _, s.lo⟩⟩

set_option maxRecDepth 100000 in
set_option maxHeartbeats 4000000 in
theorem script (a0 a1 a2 : Option Addr) (c0 c1 c2 : Nat) (T I J : List Int) (w : World) (hT : T.length ≤ 65536) (hI : I.length ≤ 65536) (h8 : 8 * (T.length + I.length + J.length) ≤ 1048576) (hIJ : I.length = J.length)
    (rT : Rd w.heap.size w .i64 a0 T) (rI : Rd w.heap.size w .i64 a1 I) (rJ : Rd w.heap.size w .i64 a2 J) :
    Calls Try.prog 3 #[.slice a0 T.length c0, .slice a1 I.length c1, .slice a2 J.length c2] w fun e w' => e = .returned (.bool true) ∧ Below w.heap.size w w' := by
  have HT : Hid (Rd w.heap.size w .i64 a0 T) := rT
  have HI : Hid (Rd w.heap.size w .i64 a1 I) := rI
  have HJ : Hid (Rd w.heap.size w .i64 a2 J) := rJ
  clear rT rI rJ
  rw [← hIJ]
  have HIJ : Hid (I.length = J.length) := hIJ
  rw [← hIJ] at h8
  clear hIJ
  go_enter Try.func3, Try.ntmps3
  go_wp2_with fail
  refine (z5 a0 a1 a2 T.length c0 I.length c1 I.length c2 _ (by unfold maxLen; omega) (by unfold maxLen; omega) (by unfold maxLen; omega)).mono ?_
  rintro e w' ⟨⟨bb, rfl⟩, rfl⟩
  cases bb
  · go_wp2_with fail
    go_ret
    exact ⟨rfl, Below.refl _ _⟩
  go_wp2_with fail
  go_loop [8] (fun i => ∃ k : Nat, k ≤ I.length ∧ i = .int .i64 k ∧ Hid (∀ s, s < k → (0 ≤ I.getD s 0 ∧ I.getD s 0 < T.length) ∧ (0 ≤ J.getD s 0 ∧ J.getD s 0 < T.length))) (fun i => I.length - (intOf i).toNat)
  case atStart => exact ⟨0, Nat.zero_le _, rfl, fun s hs => absurd hs (by omega)⟩
  case round =>
    obtain ⟨k, hk, rfl, hgood⟩ := hrel
    by_cases hlt : k < I.length
    · obtain ⟨b1, f1, e1, _, cI⟩ := HI.out k hlt
      obtain ⟨b2, f2, e2, _, cJ⟩ := HJ.out k (by rw [← HIJ.out]; exact hlt)
      subst e1 e2
      have Hnext : Hid (((0 ≤ I.getD k 0 ∧ I.getD k 0 < T.length) ∧ (0 ≤ J.getD k 0 ∧ J.getD k 0 < T.length)) → ∀ s, s < k + 1 → (0 ≤ I.getD s 0 ∧ I.getD s 0 < T.length) ∧ (0 ≤ J.getD s 0 ∧ J.getD s 0 < T.length)) := by
        intro h s hs
        by_cases e : s = k
        · subst e; exact h
        · exact hgood.out s (by omega)
      generalize I.getD k 0 = x at cI Hnext
      generalize J.getD k 0 = y at cJ Hnext
      by_cases g1 : x < 0
      · go_wp2
        go_ret
        exact ⟨rfl, Below.refl _ _⟩
      by_cases g2 : (T.length : Int) ≤ x
      · go_wp2
        go_ret
        exact ⟨rfl, Below.refl _ _⟩
      by_cases g3 : y < 0
      · go_wp2
        go_ret
        exact ⟨rfl, Below.refl _ _⟩
      by_cases g4 : (T.length : Int) ≤ y
      · go_wp2
        go_ret
        exact ⟨rfl, Below.refl _ _⟩
      go_wp2
      go_round
      case rel => exact ⟨k + 1, by omega, by go_num, Hnext.out ⟨⟨by omega, by omega⟩, ⟨by omega, by omega⟩⟩⟩
      case measure => simp [intOf]; omega
    · have hke : k = I.length := by omega
      have Hgood : Hid (∀ s, s < I.length → (0 ≤ I.getD s 0 ∧ I.getD s 0 < T.length) ∧ (0 ≤ J.getD s 0 ∧ J.getD s 0 < T.length)) := by rw [← hke]; exact hgood
      clear hgood
      obtain ⟨i0, hi0, hz0, hz1, hz2⟩ := info_parts Try.info2
      clear hke
      go_wp2_with fail
      refine (z6 (B := w.heap.size) a0 c0 T w (by omega) HT.out (Nat.le_refl _)).mono ?_
      rintro e w1 ⟨rfl, h1⟩
      obtain ⟨⟨ps, hq⟩, hb1⟩ := h1.out
      have Hq : Hid (Qu w1 w.heap.size w.heap.size T.length T.length ps T) := hq
      have Hb1 : Hid (Below w.heap.size w w1) := hb1
      clear h1 hq hb1
      go_wp2_with (at_make; (refine wpList_make_full _ rfl _ _ 22 rfl w.heap.size 2 i0 (.int .i64 0) 1 Try.underlying22 hi0 hz0 hz1 .i64 .i64 _ _ T.length rfl rfl rfl rfl ?c1 ?c2 ?c3 ?_))
      case c1 => rw [hz2]; omega
      case c2 => unfold maxLen; omega
      case c3 => exact Hb1.out.size
      intro w2 hown hg
      have HM : Hid (Qu w2 w.heap.size w.heap.size T.length T.length ps T ∧ w2.ownsRow w.heap.size 2 1 (.slice (some ⟨w1.heap.size, 0, none⟩) T.length T.length) T.length ((mk T 0).map (Value.int .i64)) ∧ Below w.heap.size w w2) := by
        refine ⟨Hq.out.grown hg, ?_, Hb1.out.trans ⟨hg.os, hg.tape, hg.output, hg.size, fun k hk => hg.block k (Nat.lt_of_lt_of_le hk Hb1.out.size) (by simp)⟩⟩
        rw [mk_zero]; simpa [toList_madeCells_one, Value.cells] using hown
      clear hown hg Hq
      have hm1 : w.heap.size ≤ w1.heap.size := Hb1.out.size
      go_wp2
      go_loopw [11] (fun i wr => ∃ k : Nat, k ≤ T.length ∧ i = .int .i64 k ∧ Hid (Qu wr w.heap.size w.heap.size T.length T.length ps T ∧ wr.ownsRow w.heap.size 2 1 (.slice (some ⟨w1.heap.size, 0, none⟩) T.length T.length) T.length ((mk T k).map (Value.int .i64)) ∧ Below w.heap.size w wr)) (fun i _ => T.length - (intOf i).toNat)
      case atStart => exact ⟨0, Nat.zero_le _, rfl, HM⟩
      case round =>
        obtain ⟨k2, hk2, rfl, hM⟩ := hrel
        clear HM
        by_cases hlt2 : k2 < T.length
        · obtain ⟨b, off, ha, hbB, hc⟩ := HT.out k2 hlt2
          have hcx : wr.cell? ⟨b, off + k2, none⟩ = some (.int .i64 (T.getD k2 0)) := (hM.out.2.2.cell (by exact hbB)).trans hc
          have hcm : ∃ v, wr.cell? ⟨w1.heap.size, k2, none⟩ = some v := ⟨_, int_cell hM.out.2.1 k2 hlt2⟩
          obtain ⟨v, hcm⟩ := hcm
          have hfm := hM.out.2.1.frozenAt k2
          have HN : Hid (Qu (wr.setCell ⟨w1.heap.size, k2, none⟩ (.int .i64 (T.getD k2 0))) w.heap.size w.heap.size T.length T.length ps T ∧ (wr.setCell ⟨w1.heap.size, k2, none⟩ (.int .i64 (T.getD k2 0))).ownsRow w.heap.size 2 1 (.slice (some ⟨w1.heap.size, 0, none⟩) T.length T.length) T.length ((mk T (k2 + 1)).map (Value.int .i64)) ∧ Below w.heap.size w (wr.setCell ⟨w1.heap.size, k2, none⟩ (.int .i64 (T.getD k2 0)))) :=
            ⟨hM.out.1.setOther hM.out.2.1 (by decide) _, by rw [← mk_set T k2 hlt2]; exact (hM.out.2.1.stored k2 _).1, hM.out.2.2.setCell (by exact hm1) _⟩
          subst ha
          clear hc hM
          generalize T.getD k2 0 = x at hcx HN
          go_wp2
          go_roundw
          case rel => exact ⟨k2 + 1, by omega, by go_num, HN⟩
          case measure => simp [intOf]; omega
        · have hke2 : k2 = T.length := by omega
          have HS : Hid (Sc w wr w.heap.size w1.heap.size T.length ps T) := by
            have h := hM.out
            rw [hke2, mk_full] at h
            exact ⟨h.1, h.2.1, h.2.2, Nat.le_refl _⟩
          clear hM hke2
          go_wp2
          go_loopw [12, 13, 14, 15, 16] (fun i _ _ _ _ wr => ∃ (k : Nat) (ps : List Nat) (ts : List Int), k ≤ I.length ∧ i = .int .i64 k ∧ Hid (Sc w wr w.heap.size w1.heap.size T.length ps ts)) (fun i _ _ _ _ _ => I.length - (intOf i).toNat)
          case atStart => exact ⟨0, ps, T, Nat.zero_le _, rfl, HS⟩
          case round =>
            obtain ⟨k3, ps3, ts3, hk3, rfl, hS⟩ := hrel
            clear HS
            by_cases hlt3 : k3 < I.length
            · obtain ⟨b1, f1, e1, q1, cI⟩ := HI.out k3 hlt3
              obtain ⟨b2, f2, e2, q2, cJ⟩ := HJ.out k3 (by rw [← HIJ.out]; exact hlt3)
              have gd := Hgood.out k3 hlt3
              have cI2 : wr.cell? ⟨b1, f1 + k3, none⟩ = some (.int .i64 (I.getD k3 0)) := (hS.out.b.cell (by exact q1)).trans cI
              have cJ2 : wr.cell? ⟨b2, f2 + k3, none⟩ = some (.int .i64 (J.getD k3 0)) := (hS.out.b.cell (by exact q2)).trans cJ
              subst e1 e2
              clear cI cJ q1 q2
              generalize I.getD k3 0 = x at cI2 gd
              generalize J.getD k3 0 = y at cJ2 gd
              obtain ⟨i, rfl⟩ := Int.eq_ofNat_of_zero_le gd.1.1
              obtain ⟨j, rfl⟩ := Int.eq_ofNat_of_zero_le gd.2.1
              have hi : i < T.length := by omega
              have hj : j < T.length := by omega
              clear gd
              go_wp2_with fail
              refine (swap_q hS.out.q _ _ i j rfl rfl hi hj).mono ?_
              rintro e w3 ⟨rfl, h3⟩
              have hst := hS.out.step hi hj h3.out.1 h3.out.2
              obtain ⟨⟨m1, m2, m3⟩, hS2⟩ := hst
              have HS2 : Hid _ := hS2
              clear hS2 h3 hS cI2 cJ2
              have m4 := m3 i
              have m5 := m3 j
              clear m3
              generalize ts3.getD i 0 = u at m1 HS2
              generalize ts3.getD j 0 = v at m2 HS2
              obtain ⟨v3, m6⟩ := cell?_setCell_some (w := w3) (p := ⟨w1.heap.size, i, none⟩) (x := .int .i64 v) (q := ⟨w1.heap.size, j, none⟩) (v := .int .i64 v) m2
              go_wp2_with fail
              go_roundw
              case rel => exact ⟨k3 + 1, _, _, by omega, by go_num, HS2⟩
              case measure => simp [intOf]; omega
            · go_wp2
              go_loopw [17] (fun i wr' => ∃ k m : Nat, k ≤ T.length ∧ i = .int .i64 k ∧ wr' = wr.drewN m) (fun i _ => T.length - (intOf i).toNat)
              case atStart => exact ⟨0, 0, Nat.zero_le _, rfl, rfl⟩
              case round =>
                obtain ⟨k4, m, hk4, rfl, rfl⟩ := hrel
                by_cases hlt4 : k4 < T.length
                · have hS4 := hS.out.drewN m
                  obtain ⟨l1, l2, l3⟩ := hS4.q.look k4 hlt4
                  have l4 := int_cell hS4.m k4 hlt4
                  have Hd : Hid (∀ q, (wr.drewN m).drewN q = wr.drewN (m + q)) := fun q => World.drewN_drewN _ _ _
                  clear hS4
                  generalize wr.drewN m = W1 at l1 l2 l3 l4 Hd ⊢
                  generalize ps3.getD k4 0 = p at l1 l2 l3
                  generalize ts3.getD k4 0 = u at l2 l4
                  go_wp2_with fail
                  go_quiet ((go_at_call 8; exact Calls.quiet_of_same (z8 w.heap.size T.length T.length k4 p u (W1.drewN _) hlt4 l1 l2)))
                  go_wp2_with (go_at_call 9; refine (flipC (z9 w.heap.size T.length T.length k4 p k4 (W1.drewN nq) hlt4 l1 l3)).mono ?_; rintro e w5 ⟨rfl, rfl⟩)
                  go_roundw
                  case rel => exact ⟨k4 + 1, m + nq, by omega, by go_num, Hd.out nq⟩
                  case measure => simp [intOf]; omega
                · have HE : Hid (Below w.heap.size w (wr.drewN m)) := (hS.out.drewN m).b
                  go_wp2
                  go_ret
                  exact ⟨rfl, HE.out⟩

set_option maxHeartbeats 1000000 in
theorem script_early (a0 a1 a2 : Option Addr) (n0 n1 n2 c0 c1 c2 : Nat) (w : World) (m0 : n0 ≤ maxLen) (m1 : n1 ≤ maxLen) (m2 : n2 ≤ maxLen) (h : ¬ (n0 ≤ 65536 ∧ n1 ≤ 65536 ∧ n2 ≤ 65536 ∧ 8 * (n0 + n1 + n2) ≤ 1048576 ∧ n1 = n2)) :
    Calls Try.prog 3 #[.slice a0 n0 c0, .slice a1 n1 c1, .slice a2 n2 c2] w fun e w' => e = .returned (.bool true) ∧ Below w.heap.size w w' := by
  have HM : Hid (n0 ≤ maxLen ∧ n1 ≤ maxLen ∧ n2 ≤ maxLen) := ⟨m0, m1, m2⟩
  clear m0 m1 m2
  go_enter Try.func3, Try.ntmps3
  go_wp2_with fail
  refine (z5 a0 a1 a2 n0 c0 n1 c1 n2 c2 _ HM.out.1 HM.out.2.1 HM.out.2.2).mono ?_
  rintro e w' ⟨⟨bb, rfl⟩, rfl⟩
  clear HM
  cases bb
  · go_wp2_with fail
    go_ret
    exact ⟨rfl, Below.refl _ _⟩
  by_cases h0 : 65536 < n0
  · clear h
    go_wp2_with fail
    go_ret
    exact ⟨rfl, Below.refl _ _⟩
  by_cases h1 : 65536 < n1
  · clear h
    go_wp2_with fail
    go_ret
    exact ⟨rfl, Below.refl _ _⟩
  by_cases h2 : 65536 < n2
  · clear h
    go_wp2_with fail
    go_ret
    exact ⟨rfl, Below.refl _ _⟩
  by_cases h3 : 1048576 < 8 * (n0 + n1 + n2)
  · clear h
    go_wp2_with fail
    go_ret
    exact ⟨rfl, Below.refl _ _⟩
  have h4 : n1 ≠ n2 := by omega
  have h5 : ((n1 : Int) != (n2 : Int)) = true := by simp; omega
  clear h
  go_wp2_with fail
  go_ret
  exact ⟨rfl, Below.refl _ _⟩
end Go.Proofs.Qxb6612651a.eq
