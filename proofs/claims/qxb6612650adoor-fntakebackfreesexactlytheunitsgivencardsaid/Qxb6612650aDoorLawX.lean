import Derived.Test.Qxb6612650aDoorLaw
namespace Go.Proofs.Qxb6612650aDoor.tb
open Go.ChangeShapes Go.WideShapes Go.ChangeAt Go.RowKit

set_option maxRecDepth 100000 in
set_option maxHeartbeats 4000000 in
theorem law_other (a0 a1 a5 : Option Addr) (k0 k1 k5 : Nat) (C M U : List Int) (sw ao : Bool) (r : Int) (hr0 : r ≠ 0) (hr1 : r ≠ 1) (w : World) (hC : C.length ≤ 32768) (hM : M.length ≤ 32768) (hU : U.length ≤ 32768)
    (rU : Rd w.heap.size w .i64 a5 U) :
    Calls Tryd.prog 3 #[.slice a0 C.length k0, .slice a1 M.length k1, .bool sw, .bool ao, .int .i64 r, .slice a5 U.length k5] w fun e w' => e = .returned (.bool true) ∧ Below w.heap.size w w' := by
  have HrU : Hid (Rd w.heap.size w .i64 a5 U) := rU
  clear rU
  have hnq := fun (W : World) (a : Option Addr) (n c : Nat) => run_neq_slice_nil_any (P := Tryd.prog) W 23 3 a n c 0 0 Tryd.underlying23
  go_enter Tryd.func3, Tryd.ntmps3
  go_wp2_with fail
  refine (z5 a0 a1 a5 C.length k0 M.length k1 U.length k5 sw ao r _ (by unfold maxLen; omega) (by unfold maxLen; omega) (by unfold maxLen; omega)).mono ?_
  rintro e w' ⟨⟨bb, rfl⟩, rfl⟩
  cases bb
  · go_wp2_with fail
    go_ret
    exact ⟨rfl, Below.refl _ _⟩
  go_upto_if 62 with fail
  go_cut [5, 13] from 40 to 69 (fun s5 s13 wx => ∃ b5 c5, s5 = .slice b5 U.length c5 ∧ Hid (Rd wx.heap.size wx .i64 b5 U ∧ Below w.heap.size w wx))
  case first =>
    cases a5 with
    | none =>
      go_wp2_with fail
      go_meet
      case rel => exact ⟨none, k5, rfl, HrU.out, Below.refl _ _⟩
    | some x =>
      obtain ⟨i0, hi, hz0, hz1, hz2⟩ := info_parts info3
      have his : (Tryd.prog.info? 3).map (·.size) = some 1 := by rw [hi]; simp [hz1]
      have HS : Hid (∀ j v, (U.map (Value.int .i64))[j]? = some v → w.cell? (x.add j) = some v) := by
        intro j v hj
        have hjl : j < U.length := by
          by_cases h : j < U.length
          · exact h
          · rw [List.getElem?_eq_none (by simpa using h)] at hj; cases hj
        obtain ⟨b, off, e, _, hc⟩ := HrU.out j hjl
        cases e
        rw [add_plain, hc]
        simp [hjl] at hj
        rw [← hj]
        simp [List.getD_eq_getElem?_getD, hjl]
      generalize hcs : U.map (Value.int .i64) = cs at HS
      have Hcs : Hid (U.map (Value.int .i64) = cs) := hcs
      have hcl : cs.length = U.length := by rw [← hcs]; simp
      have Hcl : Hid (cs.length = U.length) := hcl
      clear hcs hcl
      go_wp2_with (at_make; (refine wpList_make_full _ rfl _ _ 23 rfl w.heap.size 3 i0 (.int .i64 0) 1 Tryd.underlying23 hi hz0 hz1 .i64 .i64 _ _ U.length rfl rfl rfl rfl ?c1 ?c2 ?c3 ?_))
      case c1 => rw [hz2]; omega
      case c2 => unfold maxLen; omega
      case c3 => exact Nat.le_refl _
      intro w1 hown hg
      have Hg1 : Hid (w1.heap[w.heap.size]? = some (.cells (List.replicate U.length (Value.int .i64 0)).toArray 3 (0, 0)) ∧ Below w.heap.size w w1) := by
        obtain ⟨cur, hc1, hc2⟩ : ∃ cur : Array Value, w1.heap[w.heap.size]? = some (.cells cur 3 (0, 0)) ∧ cur.toList = List.replicate U.length (.int .i64 0) := by
          rcases hown.2 with ⟨h, _⟩ | ⟨g, cap, cur, h, _, hgg, _, _, hs, ht⟩
          · simp at h
          · simp only [Value.slice.injEq, Option.some.injEq, Addr.mk.injEq, and_true, true_and] at h
            obtain ⟨rfl, rfl⟩ := h
            refine ⟨cur, hgg, ?_⟩
            rw [← List.take_of_length_le (l := cur.toList) (i := U.length * 1) (by rw [Array.length_toList, hs]; exact Nat.le_refl _), ht]
            simp [toList_madeCells_one]
        refine ⟨?_, ⟨hg.os, hg.tape, hg.output, hg.size, fun k hk => hg.block k hk (by simp)⟩⟩
        rw [hc1, ← hc2]
      clear hown hg
      go_wp2_with (refine wpList_copy_splice rfl (.tmp 66) (.tmp 67) 23 23 rfl 3 Tryd.underlying23 his (some ⟨w.heap.size, 0, none⟩) (some x) U.length U.length U.length k5 rfl rfl w.heap.size 0 (List.replicate U.length (.int .i64 0)) 3 ?d1 cs ?d2 ?d3 ?d4 ?d5 w.heap.size w ?d6 (Nat.le_refl _) ?_)
      case d1 => exact Hg1.out.1
      case d2 => rw [Hcl.out]; simp
      case d3 => intro _ j v hj; exact (Hg1.out.2.cell (World.block_lt_of_cell? w _ (HS.out j v hj))).trans (HS.out j v hj)
      case d4 => rw [Hcl.out]; simp
      case d5 => rw [← Hcs.out]; exact ints_oneCell _ _
      case d6 => exact Hg1.out.2
      intro w2 hs2 hb2
      go_wp2_with fail
      go_meet
      case rel =>
        refine ⟨some ⟨w.heap.size, 0, none⟩, U.length, rfl, ?_, hb2⟩
        have h2 := hs2.out
        rw [splice_all _ _ _ Hcl.out, ← Hcs.out] at h2
        intro i hi
        refine ⟨w.heap.size, 0, rfl, (Array.getElem?_eq_some_iff.1 h2).1, ?_⟩
        rw [cell_of_row w2 w.heap.size (0 + i) _ _ _ h2]
        simp [List.getD_eq_getElem?_getD, hi]
  case rest =>
    obtain ⟨b5, c5, rfl, hcut⟩ := hcut
    have Hb2 : Hid (Below w.heap.size w wc) := hcut.out.2
    clear hcut HrU hnq
    go_wp2_with fail
    refine (z6_other a0 a1 b5 k0 k1 c5 _ _ _ sw r _ hr0 hr1).mono ?_
    rintro e w2 ⟨rfl, rfl⟩
    go_wp2_with fail
    go_ret
    exact ⟨rfl, Hb2.out⟩

set_option maxRecDepth 100000 in
theorem law_long (a0 a1 a5 : Option Addr) (n0 n1 n5 k0 k1 k5 : Nat) (sw ao : Bool) (r : Int) (w : World) (h0 : n0 ≤ maxLen) (h1 : n1 ≤ maxLen) (h5 : n5 ≤ maxLen) (hl : ¬ (n0 ≤ 32768 ∧ n1 ≤ 32768 ∧ n5 ≤ 32768)) :
    Calls Tryd.prog 3 #[.slice a0 n0 k0, .slice a1 n1 k1, .bool sw, .bool ao, .int .i64 r, .slice a5 n5 k5] w fun e w' => e = .returned (.bool true) ∧ Below w.heap.size w w' := by
  have h0' := h0
  have h1' := h1
  have h5' := h5
  unfold maxLen at h0' h1' h5'
  go_enter Tryd.func3, Tryd.ntmps3
  go_wp2_with fail
  refine (z5 a0 a1 a5 n0 k0 n1 k1 n5 k5 sw ao r _ h0 h1 h5).mono ?_
  rintro e w' ⟨⟨bb, rfl⟩, rfl⟩
  cases bb
  · go_wp2_with fail
    go_ret
    exact ⟨rfl, Below.refl _ _⟩
  by_cases c0 : n0 ≤ 32768
  · by_cases c1 : n1 ≤ 32768
    · have c5 : 32768 < n5 := by omega
      clear hl
      go_wp2_with fail
      go_ret
      exact ⟨rfl, Below.refl _ _⟩
    · clear hl
      go_wp2_with fail
      go_ret
      exact ⟨rfl, Below.refl _ _⟩
  · clear hl
    go_wp2_with fail
    go_ret
    exact ⟨rfl, Below.refl _ _⟩

end Go.Proofs.Qxb6612650aDoor.tb
