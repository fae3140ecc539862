import Derived.Test.Qxb6612651aScript
namespace Go.Proofs.Qxb6612651a.eq
open Go.ChangeShapes Go.WideShapes Go.ChangeAt Go.RowKit
set_option linter.unusedSimpArgs false

theorem z10 (a0 : Option Addr) (n0 c0 : Nat) (i j k : Int) (w : World) (h0 : n0 ≤ maxLen) :
    Calls Try.prog 10 #[.slice a0 n0 c0, .int .i64 i, .int .i64 j, .int .i64 k] w fun e w' => (∃ b : Bool, e = .returned (.bool b)) ∧ w = w' := by
  unfold maxLen at h0
  go_enter Try.func10, Try.ntmps10
  go_wp2
  all_goals
    go_ret
    exact ⟨⟨_, rfl⟩, rfl⟩

set_option maxHeartbeats 4000000 in
theorem conj_early (a0 : Option Addr) (n c0 : Nat) (i j k : Int) (w : World) (m0 : n ≤ maxLen) (h : ¬ (n ≤ 65536 ∧ (0 ≤ i ∧ i < n) ∧ (0 ≤ j ∧ j < n) ∧ (0 ≤ k ∧ k < n) ∧ i ≠ j ∧ j ≠ k ∧ i ≠ k)) :
    Calls Try.prog 4 #[.slice a0 n c0, .int .i64 i, .int .i64 j, .int .i64 k] w fun e w' => e = .returned (.bool true) ∧ Below w.heap.size w w' := by
  have HM : Hid (n ≤ maxLen) := m0
  clear m0
  go_enter Try.func4, Try.ntmps4
  go_wp2_with fail
  refine (z10 a0 n c0 i j k _ HM.out).mono ?_
  rintro e w' ⟨⟨bb, rfl⟩, rfl⟩
  clear HM
  cases bb
  · go_wp2_with fail
    go_ret
    exact ⟨rfl, Below.refl _ _⟩
  by_cases h0 : 65536 < n
  · clear h
    go_wp2_with fail
    go_ret
    exact ⟨rfl, Below.refl _ _⟩
  by_cases h1 : i < 0
  · clear h
    go_wp2_with fail
    go_ret
    exact ⟨rfl, Below.refl _ _⟩
  by_cases h2 : (n : Int) ≤ i
  · clear h
    go_wp2_with fail
    go_ret
    exact ⟨rfl, Below.refl _ _⟩
  by_cases h3 : j < 0
  · clear h
    go_wp2_with fail
    go_ret
    exact ⟨rfl, Below.refl _ _⟩
  by_cases h4 : (n : Int) ≤ j
  · clear h
    go_wp2_with fail
    go_ret
    exact ⟨rfl, Below.refl _ _⟩
  by_cases h5 : k < 0
  · clear h
    go_wp2_with fail
    go_ret
    exact ⟨rfl, Below.refl _ _⟩
  by_cases h6 : (n : Int) ≤ k
  · clear h
    go_wp2_with fail
    go_ret
    exact ⟨rfl, Below.refl _ _⟩
  by_cases h7 : i = j
  · clear h
    have e1 : (i == j) = true := by simp [h7]
    go_wp2_with fail
    go_ret
    exact ⟨rfl, Below.refl _ _⟩
  have e1 : (i == j) = false := by simp [h7]
  by_cases h8 : j = k
  · clear h
    have e2 : (j == k) = true := by simp [h8]
    go_wp2_with fail
    go_ret
    exact ⟨rfl, Below.refl _ _⟩
  have e2 : (j == k) = false := by simp [h8]
  have h9 : i = k := by omega
  have e3 : (i == k) = true := by simp [h9]
  clear h
  go_wp2_with fail
  go_ret
  exact ⟨rfl, Below.refl _ _⟩

/-- Blocks beside those of another queue stay: the second queue's blocks lie above the first's. -/
theorem Qu.other {B g n c B2 g2 n2 c2 : Nat} {ps ps2 : List Nat} {ts ts2 : List Int} {w w' : World} (q : Qu w B g n c ps ts) (q2 : Qu w B2 g2 n2 c2 ps2 ts2) (hg : g < B2) (hp : ∀ k, k < n → ps.getD k 0 < B2) (h : Ch g2 ps2 w w') : Qu w' B g n c ps ts := by
  refine q.keep fun k o hk ho => ?_
  have hlt : k < B2 := by
    rcases hk with rfl | hm
    · exact hg
    · obtain ⟨i, hi, e⟩ := mem_getD hm
      have := hp i (by rw [← q.len]; exact hi)
      omega
  rw [h.block k (by have := (own_obj q2.own).1; omega) (fun hm => by
    obtain ⟨i, hi, e⟩ := mem_getD hm
    have := q2.lo i (by rw [← q2.len]; exact hi)
    omega)]
  exact ho
theorem Qu.bound {B g n c : Nat} {ps : List Nat} {ts : List Int} {w : World} (q : Qu w B g n c ps ts) : g < w.heap.size ∧ ∀ k, k < n → ps.getD k 0 < w.heap.size := by
  obtain ⟨_, cur, h⟩ := own_obj q.own
  exact ⟨(Array.getElem?_eq_some_iff.1 h).1, fun k hk => (Array.getElem?_eq_some_iff.1 (q.ent k hk)).1⟩
theorem Qu.below {B g n c B2 : Nat} {ps : List Nat} {ts : List Int} {w w' : World} (q : Qu w B g n c ps ts) (hB : w.heap.size ≤ B2) (h : Below B2 w w') : Qu w' B g n c ps ts :=
  q.keep fun k o _ ho => by rw [h.block k (Nat.lt_of_lt_of_le (Array.getElem?_eq_some_iff.1 ho).1 hB)]; exact ho

set_option maxRecDepth 100000 in
set_option maxHeartbeats 4000000 in
theorem conj (a0 : Option Addr) (c0 : Nat) (T : List Int) (i j k : Nat) (w : World) (hT : T.length ≤ 65536) (hi : i < T.length) (hj : j < T.length) (hk : k < T.length) (h1 : i ≠ j) (h2 : j ≠ k) (h3 : i ≠ k) (rT : Rd w.heap.size w .i64 a0 T) :
    Calls Try.prog 4 #[.slice a0 T.length c0, .int .i64 i, .int .i64 j, .int .i64 k] w fun e w' => e = .returned (.bool true) ∧ Below w.heap.size w w' := by
  have HT : Hid (Rd w.heap.size w .i64 a0 T) := rT
  clear rT
  have HC : Hid (sw 0 (sw 0 (sw 0 T i j) j k) i j = sw 0 T i k) := sw_conj 0 T i j k hi hj hk h1 h2 h3
  have HW : Hid (∀ m, (sw 0 T i k).getD m 0 = if m = k then T.getD i 0 else if m = i then T.getD k 0 else T.getD m 0) := fun m => sw_getD 0 T i k m hi hk
  go_enter Try.func4, Try.ntmps4
  go_wp2_with fail
  refine (z10 a0 T.length c0 i j k _ (by unfold maxLen; omega)).mono ?_
  rintro e w' ⟨⟨bb, rfl⟩, rfl⟩
  cases bb
  · go_wp2_with fail
    go_ret
    exact ⟨rfl, Below.refl _ _⟩
  have e1 : ((i : Int) == (j : Int)) = false := by simp; omega
  have e2 : ((j : Int) == (k : Int)) = false := by simp; omega
  have e3 : ((i : Int) == (k : Int)) = false := by simp; omega
  go_wp2_with fail
  refine (z6 (B := w.heap.size) a0 c0 T w (by omega) HT.out (Nat.le_refl _)).mono ?_
  rintro e w1 ⟨rfl, q1⟩
  obtain ⟨⟨ps1, q1⟩, b1⟩ := q1.out
  have Q1 : Hid (Qu w1 w.heap.size w.heap.size T.length T.length ps1 T) := q1
  have B1 : Hid (Below w.heap.size w w1) := b1
  clear q1 b1
  go_wp2_with fail
  refine (swap_q Q1.out _ _ i j rfl rfl hi hj).mono ?_
  rintro e w2 ⟨rfl, q2⟩
  have B2 : Hid (Below w.heap.size w w2) := q2.out.2.below Q1.out B1.out (Nat.le_refl _)
  have Q2 : Hid (Qu w2 w.heap.size w.heap.size T.length T.length (sw 0 ps1 i j) (sw 0 T i j)) := q2.out.1
  clear q2 Q1 B1
  go_wp2_with fail
  refine (swap_q Q2.out _ _ j k rfl rfl hj hk).mono ?_
  rintro e w3 ⟨rfl, q3⟩
  have B3 : Hid (Below w.heap.size w w3) := q3.out.2.below Q2.out B2.out (Nat.le_refl _)
  have Q3 : Hid (Qu w3 w.heap.size w.heap.size T.length T.length (sw 0 (sw 0 ps1 i j) j k) (sw 0 (sw 0 T i j) j k)) := q3.out.1
  clear q3 Q2 B2
  go_wp2_with fail
  refine (swap_q Q3.out _ _ i j rfl rfl hi hj).mono ?_
  rintro e w4 ⟨rfl, q4⟩
  have B4 : Hid (Below w.heap.size w w4) := q4.out.2.below Q3.out B3.out (Nat.le_refl _)
  have Q4 : Hid (∃ ps, Qu w4 w.heap.size w.heap.size T.length T.length ps (sw 0 T i k)) := ⟨_, by rw [← HC.out]; exact q4.out.1⟩
  clear q4 Q3 B3 HC
  obtain ⟨pa, qa⟩ := Q4.out
  have Qa : Hid (Qu w4 w.heap.size w.heap.size T.length T.length pa (sw 0 T i k)) := qa
  clear Q4 qa
  have hs4 : w.heap.size ≤ w4.heap.size := B4.out.size
  go_wp2_with fail
  refine (z6 (B := w.heap.size) a0 c0 T w4 (by omega) (HT.out.below B4.out) hs4).mono ?_
  rintro e w5 ⟨rfl, q5⟩
  obtain ⟨⟨pb, q5⟩, b5⟩ := q5.out
  have Q5 : Hid (Qu w5 w4.heap.size w4.heap.size T.length T.length pb T) := q5
  have B5 : Hid (Below w.heap.size w w5) := B4.out.trans (b5.mono hs4)
  have Qa5 : Hid (Qu w5 w.heap.size w.heap.size T.length T.length pa (sw 0 T i k)) := Qa.out.below (Nat.le_refl _) b5
  have Bd : Hid (w.heap.size < w4.heap.size ∧ ∀ k, k < T.length → pa.getD k 0 < w4.heap.size) := Qa.out.bound
  clear q5 b5 Qa B4
  go_wp2_with fail
  refine (swap_q Q5.out _ _ i k rfl rfl hi hk).mono ?_
  rintro e w6 ⟨rfl, q6⟩
  have B6 : Hid (Below w.heap.size w w6) := q6.out.2.below Q5.out B5.out hs4
  have Qa6 : Hid (Qu w6 w.heap.size w.heap.size T.length T.length pa (sw 0 T i k)) := Qa5.out.other Q5.out Bd.out.1 Bd.out.2 q6.out.2
  have Qb6 : Hid (∃ pb, Qu w6 w4.heap.size w4.heap.size T.length T.length pb (sw 0 T i k)) := ⟨_, q6.out.1⟩
  clear q6 Q5 B5 Qa5 Bd
  obtain ⟨pb, qb⟩ := Qb6.out
  have Qb : Hid (Qu w6 w4.heap.size w4.heap.size T.length T.length pb (sw 0 T i k)) := qb
  clear qb Qb6
  go_wp2
  go_loop [12, 13] (fun m _ => ∃ k : Nat, k ≤ T.length ∧ m = .int .i64 k) (fun m _ => T.length - (intOf m).toNat)
  case atStart => exact ⟨0, Nat.zero_le _, rfl⟩
  case round =>
    obtain ⟨m, hm, rfl⟩ := hrel
    by_cases hlt : m < T.length
    · obtain ⟨b, off, ha, hb, cm⟩ := HT.out m hlt
      have cm' : w6.cell? ⟨b, off + m, none⟩ = some (.int .i64 (T.getD m 0)) := (B6.out.cell (by exact hb)).trans cm
      have ci' : w6.cell? ⟨b, off + i, none⟩ = some (.int .i64 (T.getD i 0)) := by
        obtain ⟨b', off', ha', hb', ci⟩ := HT.out i hi
        rw [ha] at ha'; cases ha'
        exact (B6.out.cell (by exact hb)).trans ci
      have ck' : w6.cell? ⟨b, off + k, none⟩ = some (.int .i64 (T.getD k 0)) := by
        obtain ⟨b', off', ha', hb', ck⟩ := HT.out k hk
        rw [ha] at ha'; cases ha'
        exact (B6.out.cell (by exact hb)).trans ck
      subst ha
      clear cm
      obtain ⟨la1, la2, la3⟩ := Qa6.out.look m hlt
      obtain ⟨lb1, lb2, lb3⟩ := Qb.out.look m hlt
      have hw := HW.out m
      generalize (sw 0 T i k).getD m 0 = x at la2 lb2 hw
      generalize pa.getD m 0 = pam at la1 la2 la3
      generalize pb.getD m 0 = pbm at lb1 lb2 lb3
      by_cases mi : m = i
      · have t1 : ((m : Int) == (i : Int)) = true := by simp; omega
        rw [if_neg (by omega), if_pos mi] at hw
        rw [← hw] at ck'
        clear hw ci'
        subst mi
        go_wp2_with fail
        refine (flipC (z8 w.heap.size T.length T.length m pam x w6 hlt la1 la2)).mono ?_
        rintro e w7 ⟨rfl, rfl⟩
        go_wp2_with fail
        refine (flipC (z8 w4.heap.size T.length T.length m pbm x w6 hlt lb1 lb2)).mono ?_
        rintro e w7 ⟨rfl, rfl⟩
        go_wp2_with fail
        refine (flipC (z9 w.heap.size T.length T.length m pam m w6 hlt la1 la3)).mono ?_
        rintro e w7 ⟨rfl, rfl⟩
        go_wp2_with fail
        refine (flipC (z9 w4.heap.size T.length T.length m pbm m w6 hlt lb1 lb3)).mono ?_
        rintro e w7 ⟨rfl, rfl⟩
        go_wp2_with fail
        go_round
        case rel => exact ⟨m + 1, by omega, by go_num⟩
        case measure => simp [intOf]; omega
      have t1 : ((m : Int) == (i : Int)) = false := by simp; omega
      by_cases mk : m = k
      · have t2 : ((m : Int) == (k : Int)) = true := by simp; omega
        rw [if_pos mk] at hw
        rw [← hw] at ci'
        clear hw ck'
        subst mk
        go_wp2_with fail
        refine (flipC (z8 w.heap.size T.length T.length m pam x w6 hlt la1 la2)).mono ?_
        rintro e w7 ⟨rfl, rfl⟩
        go_wp2_with fail
        refine (flipC (z8 w4.heap.size T.length T.length m pbm x w6 hlt lb1 lb2)).mono ?_
        rintro e w7 ⟨rfl, rfl⟩
        go_wp2_with fail
        refine (flipC (z9 w.heap.size T.length T.length m pam m w6 hlt la1 la3)).mono ?_
        rintro e w7 ⟨rfl, rfl⟩
        go_wp2_with fail
        refine (flipC (z9 w4.heap.size T.length T.length m pbm m w6 hlt lb1 lb3)).mono ?_
        rintro e w7 ⟨rfl, rfl⟩
        go_wp2_with fail
        go_round
        case rel => exact ⟨m + 1, by omega, by go_num⟩
        case measure => simp [intOf]; omega
      have t2 : ((m : Int) == (k : Int)) = false := by simp; omega
      rw [if_neg mk, if_neg mi] at hw
      rw [← hw] at cm'
      clear hw ck' ci'
      go_wp2_with fail
      refine (flipC (z8 w.heap.size T.length T.length m pam x w6 hlt la1 la2)).mono ?_
      rintro e w7 ⟨rfl, rfl⟩
      go_wp2_with fail
      refine (flipC (z8 w4.heap.size T.length T.length m pbm x w6 hlt lb1 lb2)).mono ?_
      rintro e w7 ⟨rfl, rfl⟩
      go_wp2_with fail
      refine (flipC (z9 w.heap.size T.length T.length m pam m w6 hlt la1 la3)).mono ?_
      rintro e w7 ⟨rfl, rfl⟩
      go_wp2_with fail
      refine (flipC (z9 w4.heap.size T.length T.length m pbm m w6 hlt lb1 lb3)).mono ?_
      rintro e w7 ⟨rfl, rfl⟩
      go_wp2_with fail
      go_round
      case rel => exact ⟨m + 1, by omega, by go_num⟩
      case measure => simp [intOf]; omega
    · go_wp2
      go_ret
      exact ⟨rfl, B6.out⟩

end Go.Proofs.Qxb6612651a.eq
