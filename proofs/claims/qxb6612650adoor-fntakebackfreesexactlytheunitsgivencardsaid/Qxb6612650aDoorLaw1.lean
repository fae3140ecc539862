import Derived.Test.Qxb6612650aDoorLaw
namespace Go.Proofs.Qxb6612650aDoor.tb
open Go.ChangeShapes Go.WideShapes Go.ChangeAt Go.RowKit

set_option maxRecDepth 100000 in
set_option maxHeartbeats 4000000 in
theorem law_1 (a0 a1 a5 : Option Addr) (k0 k1 k5 : Nat) (C M U : List Int) (sw ao : Bool) (w : World) (hC : C.length ≤ 32768) (hM : M.length ≤ 32768) (hU : U.length ≤ 32768)
    (rC : Rd w.heap.size w .u8 a0 C) (rM : Rd w.heap.size w .u8 a1 M) (rU : Rd w.heap.size w .i64 a5 U) (hv : w.cell? ⟨0, 0, none⟩ = some (.int .i64 0) ∧ w.cell? ⟨0, 1, none⟩ = some (.int .i64 1)) :
    Calls Tryd.prog 3 #[.slice a0 C.length k0, .slice a1 M.length k1, .bool sw, .bool ao, .int .i64 1, .slice a5 U.length k5] w fun e w' => e = .returned (.bool true) ∧ Below w.heap.size w w' := by
  have HrC : Hid (Rd w.heap.size w .u8 a0 C) := rC
  have HrM : Hid (Rd w.heap.size w .u8 a1 M) := rM
  have HrU : Hid (Rd w.heap.size w .i64 a5 U) := rU
  have Hv : Hid _ := hv
  clear rC rM rU hv
  have hnq := fun (W : World) (a : Option Addr) (n c : Nat) => run_neq_slice_nil_any (P := Tryd.prog) W 23 3 a n c 0 0 Tryd.underlying23
  go_enter Tryd.func3, Tryd.ntmps3
  go_wp2_with fail
  refine (z5 a0 a1 a5 C.length k0 M.length k1 U.length k5 sw ao 1 _ (by unfold maxLen; omega) (by unfold maxLen; omega) (by unfold maxLen; omega)).mono ?_
  rintro e w' ⟨⟨bb, rfl⟩, rfl⟩
  cases bb
  · go_wp2_with fail
    go_ret
    exact ⟨rfl, Below.refl _ _⟩
  go_upto_if 62 with fail
  go_cut [5, 13] from 40 to 69 (fun s5 s13 wx => ∃ b5 c5, s5 = .slice b5 U.length c5 ∧ Hid (Rd wx.heap.size wx .i64 b5 U ∧ Below w.heap.size w wx))
  case first =>
    cases a5 with
    | none =>
      go_wp2_with fail
      go_meet
      case rel => exact ⟨none, k5, rfl, HrU.out, Below.refl _ _⟩
    | some x =>
      obtain ⟨i0, hi, hz0, hz1, hz2⟩ := info_parts info3
      have his : (Tryd.prog.info? 3).map (·.size) = some 1 := by rw [hi]; simp [hz1]
      have HS : Hid (∀ j v, (U.map (Value.int .i64))[j]? = some v → w.cell? (x.add j) = some v) := by
        intro j v hj
        have hjl : j < U.length := by
          by_cases h : j < U.length
          · exact h
          · rw [List.getElem?_eq_none (by simpa using h)] at hj; cases hj
        obtain ⟨b, off, e, _, hc⟩ := HrU.out j hjl
        cases e
        rw [add_plain, hc]
        simp [hjl] at hj
        rw [← hj]
        simp [List.getD_eq_getElem?_getD, hjl]
      generalize hcs : U.map (Value.int .i64) = cs at HS
      have Hcs : Hid (U.map (Value.int .i64) = cs) := hcs
      have hcl : cs.length = U.length := by rw [← hcs]; simp
      have Hcl : Hid (cs.length = U.length) := hcl
      clear hcs hcl
      go_wp2_with (at_make; (refine wpList_make_full _ rfl _ _ 23 rfl w.heap.size 3 i0 (.int .i64 0) 1 Tryd.underlying23 hi hz0 hz1 .i64 .i64 _ _ U.length rfl rfl rfl rfl ?c1 ?c2 ?c3 ?_))
      case c1 => rw [hz2]; omega
      case c2 => unfold maxLen; omega
      case c3 => exact Nat.le_refl _
      intro w1 hown hg
      have Hg1 : Hid (w1.heap[w.heap.size]? = some (.cells (List.replicate U.length (Value.int .i64 0)).toArray 3 (0, 0)) ∧ Below w.heap.size w w1) := by
        obtain ⟨cur, hc1, hc2⟩ : ∃ cur : Array Value, w1.heap[w.heap.size]? = some (.cells cur 3 (0, 0)) ∧ cur.toList = List.replicate U.length (.int .i64 0) := by
          rcases hown.2 with ⟨h, _⟩ | ⟨g, cap, cur, h, _, hgg, _, _, hs, ht⟩
          · simp at h
          · simp only [Value.slice.injEq, Option.some.injEq, Addr.mk.injEq, and_true, true_and] at h
            obtain ⟨rfl, rfl⟩ := h
            refine ⟨cur, hgg, ?_⟩
            rw [← List.take_of_length_le (l := cur.toList) (i := U.length * 1) (by rw [Array.length_toList, hs]; exact Nat.le_refl _), ht]
            simp [toList_madeCells_one]
        refine ⟨?_, ⟨hg.os, hg.tape, hg.output, hg.size, fun k hk => hg.block k hk (by simp)⟩⟩
        rw [hc1, ← hc2]
      clear hown hg
      go_wp2_with (refine wpList_copy_splice rfl (.tmp 66) (.tmp 67) 23 23 rfl 3 Tryd.underlying23 his (some ⟨w.heap.size, 0, none⟩) (some x) U.length U.length U.length k5 rfl rfl w.heap.size 0 (List.replicate U.length (.int .i64 0)) 3 ?d1 cs ?d2 ?d3 ?d4 ?d5 w.heap.size w ?d6 (Nat.le_refl _) ?_)
      case d1 => exact Hg1.out.1
      case d2 => rw [Hcl.out]; simp
      case d3 => intro _ j v hj; exact (Hg1.out.2.cell (World.block_lt_of_cell? w _ (HS.out j v hj))).trans (HS.out j v hj)
      case d4 => rw [Hcl.out]; simp
      case d5 => rw [← Hcs.out]; exact ints_oneCell _ _
      case d6 => exact Hg1.out.2
      intro w2 hs2 hb2
      go_wp2_with fail
      go_meet
      case rel =>
        refine ⟨some ⟨w.heap.size, 0, none⟩, U.length, rfl, ?_, hb2⟩
        have h2 := hs2.out
        rw [splice_all _ _ _ Hcl.out, ← Hcs.out] at h2
        intro i hi
        refine ⟨w.heap.size, 0, rfl, (Array.getElem?_eq_some_iff.1 h2).1, ?_⟩
        rw [cell_of_row w2 w.heap.size (0 + i) _ _ _ h2]
        simp [List.getD_eq_getElem?_getD, hi]
  case rest =>
    obtain ⟨b5, c5, rfl, hcut⟩ := hcut
    have HrC2 : Hid (Rd wc.heap.size wc .u8 a0 C) := (HrC.out.below hcut.out.2).mono hcut.out.2.size
    have HrM2 : Hid (Rd wc.heap.size wc .u8 a1 M) := (HrM.out.below hcut.out.2).mono hcut.out.2.size
    have HrU2 : Hid (Rd wc.heap.size wc .i64 b5 U) := hcut.out.1
    have Hb2 : Hid (Below w.heap.size w wc) := hcut.out.2
    clear hcut HrC HrM HrU hnq
    go_wp2_with fail
    refine (z6_1 (B := wc.heap.size) a0 a1 b5 k0 k1 c5 C M U sw wc (by omega) (by omega) (by omega) HrC2.out HrM2.out HrU2.out (Nat.le_refl _)).mono ?_
    rintro e w2 ⟨tv, ok, rfl, hg, hok⟩
    have Hg2 : Hid (wc.grownBy w2 none) := hg
    clear hg
    cases ok
    · clear hok
      go_wp2_with fail
      go_ret
      exact ⟨rfl, Hb2.out.trans ⟨Hg2.out.os, Hg2.out.tape, Hg2.out.output, Hg2.out.size, fun k hk => Hg2.out.block k (Nat.lt_of_lt_of_le hk Hb2.out.size) (by simp)⟩⟩
    obtain ⟨hP, htv, htk⟩ := hok rfl
    subst htv
    have HP : Hid (Prem C M M U sw) := hP
    have Htk : Hid (w2.ownsRow wc.heap.size 4 1 (.slice (some ⟨wc.heap.size, 0, none⟩) M.length M.length) M.length (tk M.length U)) := htk
    clear hP htk hok
    have Hb3 : Hid (Below wc.heap.size wc w2) := ⟨Hg2.out.os, Hg2.out.tape, Hg2.out.output, Hg2.out.size, fun k hk => Hg2.out.block k hk (by simp)⟩
    have HrC3 : Hid (Rd w2.heap.size w2 .u8 a0 C) := (HrC2.out.below Hb3.out).mono Hb3.out.size
    have HrM3 : Hid (Rd w2.heap.size w2 .u8 a1 M) := (HrM2.out.below Hb3.out).mono Hb3.out.size
    have HrU3 : Hid (Rd w2.heap.size w2 .i64 b5 U) := (HrU2.out.below Hb3.out).mono Hb3.out.size
    have Hb4 : Hid (Below w.heap.size w w2) := Hb2.out.trans (Hb3.out.mono Hb2.out.size)
    have Hv2 : Hid (w2.cell? ⟨0, 0, none⟩ = some (.int .i64 0) ∧ w2.cell? ⟨0, 1, none⟩ = some (.int .i64 1)) := ⟨(Hb4.out.cell (World.block_lt_of_cell? w _ Hv.out.1)).trans Hv.out.1, (Hb4.out.cell (World.block_lt_of_cell? w _ Hv.out.2)).trans Hv.out.2⟩
    clear HrC2 HrM2 HrU2 Hb2 Hg2 Hv Hb3
    generalize wc.heap.size = wc0 at Htk ⊢
    go_wp2_with fail
    refine (z7 a0 k0 C _ (by omega) HrC3.out).mono ?_
    rintro e w3 ⟨rfl, rfl⟩
    go_wp2_with fail
    refine (z7 a1 k1 M _ (by omega) HrM3.out).mono ?_
    rintro e w3 ⟨rfl, rfl⟩
    go_wp2_with fail
    refine (z8 a0 a1 k0 k1 C M sw ao w2 (by omega) (by omega) HrC3.out HrM3.out Hv2.out).mono ?_
    rintro e w3 ⟨L, A, bt, hp, rfl, hB⟩
    have HB : Hid (Built w2 w3 L A bt hp C M sw ao) := hB
    clear hB Hv2
    obtain ⟨p4, hp4⟩ : ∃ p, phv hp = .pointer p := by cases hp <;> exact ⟨_, rfl⟩
    have Hp4 : Hid (phv hp = .pointer p4) := hp4
    simp only [hp4, ptr]
    clear hp4
    go_wp2_with fail
    have HW : Hid (Ones w3 (w3.alloc (.cells #[.pointer (some ⟨L.bn, 0, none⟩), .pointer (some ⟨L.bs, 0, none⟩), .pointer (some ⟨bt, 0, none⟩), .pointer (some ⟨L.bg, 0, none⟩), .pointer p4] 34)) ∧
        (w3.alloc (.cells #[.pointer (some ⟨L.bn, 0, none⟩), .pointer (some ⟨L.bs, 0, none⟩), .pointer (some ⟨bt, 0, none⟩), .pointer (some ⟨L.bg, 0, none⟩), .pointer p4] 34)).heap[w3.heap.size]? = some (stObj (ptr L.bn) (ptr L.bs) (ptr bt) (ptr L.bg) (phv hp))) :=
      ⟨(Ones.refl _).alloc _, by rw [Hp4.out]; exact heap_at _ _ _ rfl⟩
    generalize w3.alloc (.cells #[.pointer (some ⟨L.bn, 0, none⟩), .pointer (some ⟨L.bs, 0, none⟩), .pointer (some ⟨bt, 0, none⟩), .pointer (some ⟨L.bg, 0, none⟩), .pointer p4] 34) = W4 at HW ⊢
    generalize w3.heap.size = N at HW ⊢
    have HB4 : Hid (Built w2 W4 L A bt hp C M sw ao) := HB.out.ones HW.out.1
    have Hst4 : Hid (W4.heap[N]? = some (stObj (ptr L.bn) (ptr L.bs) (ptr bt) (ptr L.bg) (phv hp))) := HW.out.2
    clear HB HW
    have hz9 := z9_1 w2 W4 L A bt hp C M U sw ao HB4.out (by omega) (by omega) HP.out.good b5 c5 (by rw [HB4.out.B]; exact HrU3.out.below HB4.out.b)
    have HA : Hid (A = _) := HB4.out.eA
    have Hao : Hid (hp.isSome = ao) := HB4.out.a
    have Hbtb : Hid (L.bs < bt) := HB4.out.tb
    obtain ⟨A1, hA1⟩ : ∃ A1 : Ab, A1 = finA sw ao C M L hp bt (leftN C M U) { A with os1 := strike (owners L.bs bt M) U, f1 := (cf M : Int) + U.length, h1 := (c1 M : Int) - U.length } := ⟨_, rfl⟩
    have Hz9 : Hid (Calls Tryd.prog 9 #[.pointer (some ⟨L.bn, 0, none⟩), .pointer (some ⟨L.bs, 0, none⟩), .pointer (some ⟨L.bg, 0, none⟩), .int .i64 1, .slice b5 U.length c5] W4 fun e w5 => e = .returned (.bool (decide (leftN C M U = 0) && !ao)) ∧ Hid (Fr L W4 w5 ∧ ∃ ch', Tb w5 { L with ch := ch' } A1)) := by
      rw [hA1]
      exact hz9.mono fun e w5 h => ⟨h.1, h.2⟩
    have HA1 : Hid _ := hA1
    clear hz9 hA1
    refine Hz9.out.mono ?_
    rintro e w5 ⟨rfl, hF⟩
    obtain ⟨hFr, ch', hT⟩ := hF.out
    have HF : Hid (Fin w w5 { L with ch := ch' } A1 bt N hp C M sw) := fin_mk HB4.out hFr hT Hst4.out Hb4.out
    have HFr : Hid (Fr L W4 w5) := hFr
    clear Hz9 hF hT hFr
    have hleft0 : 0 ≤ leftN C M U := by
      have hc := strike_count (s := 0) (t := 1) (by decide) HP.out.good
      unfold leftN
      omega
    obtain ⟨left, hleft⟩ : ∃ left, left = leftN C M U := ⟨_, rfl⟩
    rw [← hleft] at HA1 hleft0 ⊢
    have Hleft : Hid (left = (c1 C : Int) + c1 M - U.length) := hleft
    clear hleft
    have q1 := c1_le C C.length
    have q2 := c1_le M M.length
    have q3 := c2_le C C.length
    have q4 := c2_le M M.length
    have q5 := cf_le C C.length
    have q6 := cf_le M M.length
    rw [List.take_length] at q1 q2 q3 q4 q5 q6
    obtain ⟨ex, hex⟩ : ∃ ex : Int, ex = if ao then 1 else 0 := ⟨_, rfl⟩
    have Hex : Hid (ex = if ao then 1 else 0) := hex
    have hex01 : 0 ≤ ex ∧ ex ≤ 1 := by rw [hex]; split <;> omega
    have EA : Hid (A1.f0 = (cf C : Int) ∧ A1.f1 = (cf M : Int) + U.length ∧ A1.h0 = (c1 C : Int) + ex ∧ A1.h1 = (c1 M : Int) - U.length ∧ A1.os0 = owners L.bs bt C ∧ A1.os1 = strike (owners L.bs bt M) U ∧ A1.gps = (if 0 < left then gpsOf L.bg hp else (gpsOf L.bg hp).tail) ∧ A1.wh = (sw && decide (0 < left)) ∧ A1.nds = (if left = 0 ∧ ao = false then (ndsOf L.bs bt C M).tail else ndsOf L.bs bt C M)) := by
      have e := HB4.out.eA
      refine ⟨?_, ?_, ?_, ?_, ?_, ?_, ?_, ?_, ?_⟩ <;> rw [HA1.out] <;> simp only [finA] <;> first | rfl | (rw [hex]; done) | (rw [e]; done) | (rw [e, hex]; done) | (rw [hex])
    clear hex HA1 HA
    obtain ⟨wn, hwn⟩ : ∃ wn : Bool, wn = (decide (left = 0) && !ao) := ⟨_, rfl⟩
    have Hwn : Hid (wn = (decide (left = 0) && !ao)) := hwn
    rw [← hwn]
    clear hwn
    go_upto_region 18 with fail
    go_cut [25, 26] from 40 to 119 (fun s25 s26 wx => s25 = .int .i64 left ∧ s26 = .bool wn ∧ w5 = wx)
    case first =>
      by_cases hz : left = 0
      · have e0 : ((c1 C : Int) + (c1 M : Int) - (U.length : Int) == 0) = true := by have := Hleft.out; simp; omega
        have Hz : Hid (left = 0) := hz
        clear hz
        cases ao
        all_goals
          go_wp2_with fail
          go_meet
          case rel => exact ⟨by rw [Hleft.out], by rw [Hwn.out, Hz.out]; rfl, rfl⟩
      · have e0 : ((c1 C : Int) + (c1 M : Int) - (U.length : Int) == 0) = false := by have := Hleft.out; simp; omega
        have Hz : Hid (decide (left = 0) = false) := decide_eq_false hz
        clear hz
        go_wp2_with fail
        go_meet
        case rel => exact ⟨by rw [Hleft.out], by rw [Hwn.out, Hz.out]; rfl, rfl⟩
    case rest =>
      obtain ⟨rfl, rfl, rfl⟩ := hcut
      have Hb5 : Hid (Below w2.heap.size w2 w5) := by
        have h1 := HFr.out.below HB4.out.T
        rw [HB4.out.B] at h1
        exact HB4.out.b.trans h1
      have HrC5 : Hid (Rd w2.heap.size w5 .u8 a0 C) := HrC3.out.below Hb5.out
      have HrM5 : Hid (Rd w2.heap.size w5 .u8 a1 M) := HrM3.out.below Hb5.out
      have Htk5 : Hid (∀ i, i < M.length → w5.cell? ⟨wc0, i, none⟩ = some (.bool (decide ((i : Int) ∈ U)))) := by
        intro i hi
        rw [(Hb5.out.cell (p := ⟨wc0, i, none⟩) (own_lt Htk.out)), Htk.out.cellAt i (by omega), tk_get _ _ _ hi]
      have HC1 : Hid (Calls Tryd.prog 10 #[.agg #[.pointer (some ⟨L.bn, 0, none⟩), .pointer (some ⟨L.bs, 0, none⟩), .pointer (some ⟨bt, 0, none⟩), .pointer (some ⟨L.bg, 0, none⟩), .pointer p4], .int .i64 0, .slice a0 C.length k0, .slice none 0 0] w5 fun e w6 => e = .returned (.bool true) ∧ Hid (Ones w5 w6)) := a10_0_plain HF.out (by omega) EA.out.2.2.2.2.1 a0 k0 HrC5.out _ _
      have HC2 : Hid (∀ w6, Hid (Ones w5 w6) → Calls Tryd.prog 10 #[.agg #[.pointer (some ⟨L.bn, 0, none⟩), .pointer (some ⟨L.bs, 0, none⟩), .pointer (some ⟨bt, 0, none⟩), .pointer (some ⟨L.bg, 0, none⟩), .pointer p4], .int .i64 1, .slice a1 M.length k1, .slice (some ⟨wc0, 0, none⟩) M.length M.length] w6 fun e w7 => e = .returned (.bool true) ∧ Hid (Ones w6 w7)) := fun w6 o6 => a10_1_struck (HF.out.ones o6.out) (by omega) EA.out.2.2.2.2.2.1 HP.out.good a1 k1 wc0 (HrM5.out.below (o6.out.below (Below.refl _ _) (by have := Hb5.out.size; omega))) (fun i hi => o6.out.cell (Htk5.out i hi)) _ _
      clear HrC3 HrM3 Htk Hb5 HrC5 HrM5 Htk5 HFr HB4 Hst4 HrU3 Hb4
      have st5 := st_cell HF.out.st
      rw [Hp4.out] at st5
      simp only [ptr] at st5
      obtain ⟨t0, t1, t2, t3, t4⟩ := st5
      go_upto_region 26 with fail
      go_wp2_with fail
      refine HC1.out.mono ?_
      rintro e w6 ⟨rfl, h6⟩
      have HF6 : Hid (Fin w w6 { L with ch := ch' } A1 bt N hp C M sw) := HF.out.ones h6.out
      have h26 := HC2.out w6 h6
      have H26 : Hid (Calls Tryd.prog 10 #[.agg #[.pointer (some ⟨L.bn, 0, none⟩), .pointer (some ⟨L.bs, 0, none⟩), .pointer (some ⟨bt, 0, none⟩), .pointer (some ⟨L.bg, 0, none⟩), .pointer p4], .int .i64 1, .slice a1 M.length k1, .slice (some ⟨wc0, 0, none⟩) M.length M.length] w6 fun e w7 => e = .returned (.bool true) ∧ Hid (Ones w6 w7)) := h26
      clear HC1 HC2 h26 t0 t1 t2 t3 t4 h6 HF
      have st5 := st_cell HF6.out.st
      rw [Hp4.out] at st5
      simp only [ptr] at st5
      obtain ⟨t0, t1, t2, t3, t4⟩ := st5
      go_wp2_with fail
      refine H26.out.mono ?_
      rintro e w7 ⟨rfl, h7⟩
      have HF7 : Hid (Fin w w7 { L with ch := ch' } A1 bt N hp C M sw) := HF6.out.ones h7.out
      clear H26 t0 t1 t2 t3 t4 h7 HF6
      go_upto_if 139 with fail
      go_cut [29] from 107 to 139 (fun s29 wx => s29 = .int .i64 ex ∧ w7 = wx)
      case first =>
        cases ao
        all_goals
          go_wp2_with fail
          go_meet
          case rel => exact ⟨by rw [Hex.out]; rfl, rfl⟩
      case rest =>
        obtain ⟨rfl, rfl⟩ := hcut
        have st5 := st_cell HF7.out.st
        rw [Hp4.out] at st5
        simp only [ptr] at st5
        obtain ⟨t0, t1, t2, t3, t4⟩ := st5
        have g18 : w7.cell? ⟨L.bg, 18, none⟩ = some (.int .i64 ((cf C : Int))) := by rw [← EA.out.1]; exact (gpu_cell HF7.out.T.g).2.2.1
        have g19 : w7.cell? ⟨L.bg, 19, none⟩ = some (.int .i64 ((cf M : Int) + U.length)) := by rw [← EA.out.2.1]; exact (gpu_cell HF7.out.T.g).2.2.2.1
        have s2 : w7.cell? ⟨L.bs, 2, none⟩ = some (.int .i64 ((c1 C : Int) + ex)) := by rw [← EA.out.2.2.1]; exact (grant_cell HF7.out.T.s).2.2.1
        have s3 : w7.cell? ⟨L.bs, 3, none⟩ = some (.int .i64 ((c1 M : Int) - U.length)) := by rw [← EA.out.2.2.2.1]; exact (grant_cell HF7.out.T.s).2.2.2
        obtain ⟨tv, htv⟩ := HF7.out.t
        have u2 := (grant_cell htv).2.2.1
        have u3 := (grant_cell htv).2.2.2
        clear htv
        go_wp2_with fail
        refine (flipC (z11_0 L.bg _ _ g18)).mono ?_
        rintro e w8 ⟨rfl, rfl⟩
        go_wp2_with fail
        refine (flipC (z11_1 L.bg _ _ g19)).mono ?_
        rintro e w8 ⟨rfl, rfl⟩
        go_wp2_with fail
        refine (flipC (z12_0 L.bs _ _ s2)).mono ?_
        rintro e w8 ⟨rfl, rfl⟩
        go_wp2_with fail
        refine (flipC (z12_1 L.bs _ _ s3)).mono ?_
        rintro e w8 ⟨rfl, rfl⟩
        go_wp2_with fail
        refine (flipC (z12_0 bt _ _ u2)).mono ?_
        rintro e w8 ⟨rfl, rfl⟩
        go_wp2_with fail
        refine (flipC (z12_1 bt _ _ u3)).mono ?_
        rintro e w8 ⟨rfl, rfl⟩
        clear g18 g19 s2 s3 u2 u3
        go_upto_if 197 with fail
        obtain ⟨i2, hi2, hy0, hy1, hy2⟩ := info_parts info32
        obtain ⟨gl1, hgl1⟩ : ∃ gl1, gl1 = (if 0 < left then [L.bg] else []) := ⟨_, rfl⟩
        have Hgl1 : Hid (gl1 = (if 0 < left then [L.bg] else [])) := hgl1
        clear hgl1
        go_cut [34] from 140 to 202 (fun s34 wx => Hid (Ones w7 wx ∧ wx.ownsRow w7.heap.size 32 1 s34 gl1.length (gl1.map ptr)))
        case first =>
          by_cases hl : 0 < left
          · have Hl : Hid (gl1 = [L.bg]) := by rw [Hgl1.out]; exact if_pos hl
            go_wp2_with (at_builtin; (refine wpList_append_own _ rfl _ _ 40 rfl w7.heap.size 32 i2 (.pointer none) 1 8 Tryd.underlying40 hi2 hy0 hy1 hy2 rfl (by decide) (.slice none 0 0) 0 [] rfl (World.ownsRow_nil _ _ _ _) ⟨w7.heap.size, 0, none⟩ 1 1 [ptr L.bg] rfl rfl ?c1 ?c2 ?c3 ?c4 ?c5 ?_))
            case c1 =>
              intro j u hj
              match j, hj with
              | 0, hj => simp at hj; subst hj; simp [Addr.add, ptr]
            case c2 => intro u hu; simp at hu; subst hu; rfl
            case c3 => unfold maxLen; omega
            case c4 => omega
            case c5 => simp
            intro v' w8 hown' hgrow _
            have HR : Hid (Ones w7 w8 ∧ w8.ownsRow w7.heap.size 32 1 v' gl1.length (gl1.map ptr)) := by
              rw [Hl.out]
              exact ⟨((Ones.refl w7).alloc _).grown hgrow (by intro k hk; cases hk), hown'⟩
            clear hown' hgrow
            go_wp2_with fail
            go_meet
            case rel => exact HR
          · have HR : Hid (Ones w7 w7 ∧ w7.ownsRow w7.heap.size 32 1 (.slice none 0 0) gl1.length (gl1.map ptr)) := by
              rw [Hgl1.out, if_neg hl]
              exact ⟨Ones.refl _, World.ownsRow_nil _ _ _ _⟩
            go_wp2_with fail
            go_meet
            case rel => exact HR
        case rest =>
          clear t0 t1 t2 t3 t4
          have Hgps : Hid (A1.gps = gl1 ++ (hp.map (·.1)).toList) := by
            rw [EA.out.2.2.2.2.2.2.1, Hgl1.out]
            exact gps_eq left L.bg hp
          go_upto_if 203 with fail
          go_cut [34] from 140 to 214 (fun s34 wx => Hid (Ones w7 wx ∧ wx.ownsRow w7.heap.size 32 1 s34 A1.gps.length (A1.gps.map ptr)))
          case first =>
            cases hp with
            | none =>
              have ha : ao = false := Hao.out.symm
              subst ha
              have HR : Hid (Ones w7 wc ∧ wc.ownsRow w7.heap.size 32 1 u34 A1.gps.length (A1.gps.map ptr)) := by
                rw [Hgps.out]
                simp only [Option.map_none, Option.toList_none, List.append_nil]
                exact hcut
              clear hcut
              go_wp2_with fail
              go_meet
              case rel => exact HR
            | some p =>
              obtain ⟨bh, oh⟩ := p
              have ha : ao = true := Hao.out.symm
              subst ha
              have HFc : Hid (Fin w wc { L with ch := ch' } A1 bt N (some (bh, oh)) C M sw) := HF7.out.ones hcut.out.1
              have st5 := st_cell HFc.out.st
              obtain ⟨_, t1, _, _, t4⟩ := st5
              simp only [ptr, phv] at t1 t4
              have b16 := (gpu_cell HFc.out.h.1).1
              have b0 : wc.cell? ⟨oh, 0, none⟩ = some (.pointer (some ⟨L.bs, 0, none⟩)) := by
                have h := HFc.out.h.2.1
                simp [World.cell?, h, ptr]
              have hne := neq31
              go_wp2_with fail
              go_quiet ((go_at_call 13; exact Calls.quiet_of_same (z13_h bh oh (some ⟨L.bs, 0, none⟩) (wc.drewN _) b16 b0)))
              have Hog : Hid (wc.ownsRow w7.heap.size 32 1 u34 gl1.length (gl1.map ptr)) := hcut.out.2
              have hgl : gl1.length ≤ 1 := by rw [Hgl1.out]; split <;> simp
              have hsz7 : w7.heap.size ≤ wc.heap.size := (hcut.out.1 0).size
              clear b16 b0
              go_wp2_with (at_builtin; (refine wpList_append_own _ rfl _ _ 40 rfl w7.heap.size 32 i2 (.pointer none) 1 8 Tryd.underlying40 hi2 hy0 hy1 hy2 rfl (by decide) u34 gl1.length (gl1.map ptr) rfl ?c0 ⟨wc.heap.size, 0, none⟩ 1 1 [ptr bh] rfl rfl ?c1 ?c2 ?c3 ?c4 ?c5 ?_))
              case c0 => exact World.ownsRow.alloc (w := wc.drewN nq) Hog.out _
              case c1 =>
                intro j u hj
                match j, hj with
                | 0, hj => simp at hj; subst hj; exact lit_cell (wc.drewN nq) _ _
              case c2 => intro u hu; simp at hu; subst hu; rfl
              case c3 => unfold maxLen; omega
              case c4 => omega
              case c5 => simp; omega
              intro v' w8 hown' hgrow _
              have HR : Hid (Ones w7 w8 ∧ w8.ownsRow w7.heap.size 32 1 v' A1.gps.length (A1.gps.map ptr)) := by
                refine ⟨((hcut.out.1.drewN nq).alloc _).grown hgrow (fun k hk => (Hog.out.lt k hk).1), ?_⟩
                rw [Hgps.out]
                simpa using hown'
              clear hown' hgrow
              go_wp2_with fail
              go_meet
              case rel => exact HR
          case rest =>
            obtain ⟨a34, c34, h34, hs34⟩ := own_shape hcut.out.2
            have Hs34 : Hid (0 < A1.gps.length → ∃ g, a34 = some ⟨g, 0, none⟩) := hs34
            subst h34
            have HFc : Hid (Fin w wc { L with ch := ch' } A1 bt N hp C M sw) := HF7.out.ones hcut.out.1
            have Hown : Hid (wc.ownsRow w7.heap.size 32 1 (.slice a34 A1.gps.length c34) A1.gps.length (A1.gps.map ptr)) := hcut.out.2
            have Hgl : Hid (A1.gps.length ≤ 1048576) := HFc.out.T.sz.2.2.1
            clear hcut hs34 HF7 Hgl1 Hgps
            have hgl2 : A1.gps.length ≤ 1048576 := Hgl.out
            have t1 := (st_cell HFc.out.st).2.1
            simp only [ptr] at t1
            have g1 : wc.cell? ⟨L.bs, 1, none⟩ = some (.slice (some ⟨L.sgb, 0, none⟩) A1.gps.length A1.cg) := (grant_cell HFc.out.T.s).2.1
            go_wp2_with fail
            refine (flipC (z14 L.bs _ _ _ _ g1)).mono ?_
            rintro e w8 ⟨rfl, rfl⟩
            clear t1 g1
            have hne2 := neq32
            go_wp2_with fail
            go_loopw [36] (fun i wr => ∃ k m : Nat, k ≤ A1.gps.length ∧ i = .int .i64 k ∧ wr = wc.drewN m) (fun i _ => A1.gps.length - (intOf i).toNat)
            case atStart => exact ⟨0, 0, Nat.zero_le _, rfl, rfl⟩
            case round =>
              obtain ⟨k, m, hk, rfl, rfl⟩ := hrel
              by_cases hlt : k < A1.gps.length
              · obtain ⟨gg, hgg⟩ := Hs34.out (by omega)
                subst hgg
                have f1 : (wc.drewN m).cell? ⟨L.sgb, k, none⟩ = some (.pointer (some ⟨A1.gps.getD k 0, 0, none⟩)) := Row1 HFc.out.T.gp k hlt
                have f2 : (wc.drewN m).cell? ⟨gg, k, none⟩ = some (.pointer (some ⟨A1.gps.getD k 0, 0, none⟩)) := Row1 Hown.out k hlt
                have Hd : Hid (∀ q, (wc.drewN m).drewN q = wc.drewN (m + q)) := fun q => World.drewN_drewN _ _ _
                generalize A1.gps.getD k 0 = x at f1 f2
                generalize wc.drewN m = W1 at f1 f2 Hd ⊢
                go_wp2_with fail
                go_quiet (fail)
                go_wp2_with fail
                go_roundw
                case rel => exact ⟨k + 1, m + nq, by omega, by go_num, Hd.out nq⟩
                case measure => simp [intOf]; omega
              · have HF9 : Hid (Fin w (wc.drewN m) { L with ch := ch' } A1 bt N hp C M sw) := HFc.out.ones ((Ones.refl wc).drewN m)
                clear HFc Hown Hs34
                generalize wc.drewN m = W9 at HF9 ⊢
                have t3 := (st_cell HF9.out.st).2.2.2.1
                simp only [ptr] at t3
                have g20 : W9.cell? ⟨L.bg, 20, none⟩ = some (.bool (sw && decide (0 < left))) := by
                  rw [← EA.out.2.2.2.2.2.2.2.1]; exact (gpu_cell HF9.out.T.g).2.2.2.2
                go_upto_region 61 with fail
                go_cut [246] from 198 to 245 (fun s246 wx => s246 = .bool false ∧ W9 = wx)
                case first =>
                  by_cases hl : 0 < left
                  · have e0 : decide (0 < left) = true := decide_eq_true hl
                    rw [e0] at g20
                    cases sw
                    all_goals
                      go_wp2_with (go_at_call 15; refine (flipC (z15 L.bg _ _ g20)).mono ?_; rintro e w8 ⟨rfl, rfl⟩)
                      go_meet
                      case rel => exact ⟨rfl, rfl⟩
                  · have e0 : decide (0 < left) = false := decide_eq_false hl
                    rw [e0] at g20
                    cases sw
                    all_goals
                      go_wp2_with (go_at_call 15; refine (flipC (z15 L.bg _ _ g20)).mono ?_; rintro e w8 ⟨rfl, rfl⟩)
                      go_meet
                      case rel => exact ⟨rfl, rfl⟩
                case rest =>
                  obtain ⟨rfl, rfl⟩ := hcut
                  clear t3 g20 hne2 hlt hk
                  obtain ⟨i1, hi1, hx0, hx1, hx2⟩ := info_parts info31
                  obtain ⟨nl1, hnl1⟩ : ∃ nl1, nl1 = (if wn = true then [] else [L.bs]) := ⟨_, rfl⟩
                  have Hnl1 : Hid (nl1 = (if wn = true then [] else [L.bs])) := hnl1
                  clear hnl1
                  have t1 := (st_cell HF9.out.st).2.1
                  simp only [ptr] at t1
                  go_upto_if 248 with fail
                  go_cut [37] from 198 to 253 (fun s37 wx => Hid (Ones W9 wx ∧ wx.ownsRow W9.heap.size 31 1 s37 nl1.length (nl1.map ptr)))
                  case first =>
                    cases wn
                    · have Hl : Hid (nl1 = [L.bs]) := by rw [Hnl1.out]; rfl
                      go_wp2_with (at_builtin; (refine wpList_append_own _ rfl _ _ 44 rfl W9.heap.size 31 i1 (.pointer none) 1 8 Tryd.underlying44 hi1 hx0 hx1 hx2 rfl (by decide) (.slice none 0 0) 0 [] rfl (World.ownsRow_nil _ _ _ _) ⟨W9.heap.size, 0, none⟩ 1 1 [ptr L.bs] rfl rfl ?c1 ?c2 ?c3 ?c4 ?c5 ?_))
                      case c1 =>
                        intro j u hj
                        match j, hj with
                        | 0, hj => simp at hj; subst hj; exact lit_cell W9 _ _
                      case c2 => intro u hu; simp at hu; subst hu; rfl
                      case c3 => unfold maxLen; omega
                      case c4 => omega
                      case c5 => simp
                      intro v' w8 hown' hgrow _
                      have HR : Hid (Ones W9 w8 ∧ w8.ownsRow W9.heap.size 31 1 v' nl1.length (nl1.map ptr)) := by
                        rw [Hl.out]
                        exact ⟨((Ones.refl W9).alloc _).grown hgrow (by intro k hk; cases hk), hown'⟩
                      clear hown' hgrow
                      go_wp2_with fail
                      go_meet
                      case rel => exact HR
                    · have HR : Hid (Ones W9 W9 ∧ W9.ownsRow W9.heap.size 31 1 (.slice none 0 0) nl1.length (nl1.map ptr)) := by
                        rw [Hnl1.out, if_pos rfl]
                        exact ⟨Ones.refl _, World.ownsRow_nil _ _ _ _⟩
                      go_wp2_with fail
                      go_meet
                      case rel => exact HR
                  case rest =>
                    clear t1
                    have Hnds : Hid (A1.nds = nl1 ++ (if 0 < c2 C + c2 M then [bt] else [])) := by
                      rw [EA.out.2.2.2.2.2.2.2.2, Hnl1.out, Hwn.out]
                      exact nds_eq left ao L.bs bt C M
                    have hnl : nl1.length ≤ 1 := by rw [Hnl1.out]; split <;> simp
                    have t2 : wc.cell? ⟨N, 2, none⟩ = some (.pointer (some ⟨bt, 0, none⟩)) := (st_cell (hcut.out.1.heap HF9.out.st)).2.2.1
                    go_upto_if 257 with fail
                    go_cut [37] from 198 to 262 (fun s37 wx => Hid (Ones W9 wx ∧ wx.ownsRow W9.heap.size 31 1 s37 A1.nds.length (A1.nds.map ptr)))
                    case first =>
                      by_cases ht : 0 < c2 C + c2 M
                      · have e0 : (0 : Int) < (c2 C : Int) + (c2 M : Int) := by omega
                        have Hl : Hid (A1.nds = nl1 ++ [bt]) := by rw [Hnds.out, if_pos ht]; exact rfl
                        have Hog : Hid (wc.ownsRow W9.heap.size 31 1 u37 nl1.length (nl1.map ptr)) := hcut.out.2
                        have hsz9 : W9.heap.size ≤ wc.heap.size := (hcut.out.1 0).size
                        go_wp2_with (at_builtin; (refine wpList_append_own _ rfl _ _ 44 rfl W9.heap.size 31 i1 (.pointer none) 1 8 Tryd.underlying44 hi1 hx0 hx1 hx2 rfl (by decide) u37 nl1.length (nl1.map ptr) rfl ?c0 ⟨wc.heap.size, 0, none⟩ 1 1 [ptr bt] rfl rfl ?c1 ?c2 ?c3 ?c4 ?c5 ?_))
                        case c0 => exact Hog.out.alloc _
                        case c1 =>
                          intro j u hj
                          match j, hj with
                          | 0, hj => simp at hj; subst hj; exact lit_cell wc _ _
                        case c2 => intro u hu; simp at hu; subst hu; rfl
                        case c3 => unfold maxLen; omega
                        case c4 => omega
                        case c5 => simp; omega
                        intro v' w8 hown' hgrow _
                        have HR : Hid (Ones W9 w8 ∧ w8.ownsRow W9.heap.size 31 1 v' A1.nds.length (A1.nds.map ptr)) := by
                          refine ⟨(hcut.out.1.alloc _).grown hgrow (fun k hk => (Hog.out.lt k hk).1), ?_⟩
                          rw [Hl.out]
                          simpa using hown'
                        clear hown' hgrow
                        go_wp2_with fail
                        go_meet
                        case rel => exact HR
                      · have e0 : ¬ (0 : Int) < (c2 C : Int) + (c2 M : Int) := by omega
                        have HR : Hid (Ones W9 wc ∧ wc.ownsRow W9.heap.size 31 1 u37 A1.nds.length (A1.nds.map ptr)) := by
                          rw [Hnds.out, if_neg ht, List.append_nil]
                          exact hcut
                        clear hcut ht
                        go_wp2_with fail
                        go_meet
                        case rel => exact HR
                    case rest =>
                      obtain ⟨a37, c37, h37, hs37⟩ := own_shape hcut.out.2
                      have Hs37 : Hid (0 < A1.nds.length → ∃ g, a37 = some ⟨g, 0, none⟩) := hs37
                      subst h37
                      have HFd : Hid (Fin w wc { L with ch := ch' } A1 bt N hp C M sw) := HF9.out.ones hcut.out.1
                      have Hown : Hid (wc.ownsRow W9.heap.size 31 1 (.slice a37 A1.nds.length c37) A1.nds.length (A1.nds.map ptr)) := hcut.out.2
                      have hnl2 : A1.nds.length ≤ 1048576 := HFd.out.T.sz.2.2.2
                      clear hcut hs37 HF9 Hnl1 Hnds t2
                      have t0 := (st_cell HFd.out.st).1
                      simp only [ptr] at t0
                      have g6 : wc.cell? ⟨L.bn, 6, none⟩ = some (.slice (some ⟨L.gb, 0, none⟩) A1.nds.length A1.cn) := (node_cell HFd.out.T.n).1
                      go_wp2_with fail
                      refine (flipC (z16 L.bn _ _ _ _ g6)).mono ?_
                      rintro e w8 ⟨rfl, rfl⟩
                      clear t0 g6
                      have hne2 := neq31
                      go_wp2_with fail
                      go_loopw [39] (fun i wr => ∃ k m : Nat, k ≤ A1.nds.length ∧ i = .int .i64 k ∧ wr = wc.drewN m) (fun i _ => A1.nds.length - (intOf i).toNat)
                      case atStart => exact ⟨0, 0, Nat.zero_le _, rfl, rfl⟩
                      case round =>
                        obtain ⟨k, m, hk, rfl, rfl⟩ := hrel
                        by_cases hlt : k < A1.nds.length
                        · obtain ⟨gg, hgg⟩ := Hs37.out (by omega)
                          subst hgg
                          have f1 : (wc.drewN m).cell? ⟨L.gb, k, none⟩ = some (.pointer (some ⟨A1.nds.getD k 0, 0, none⟩)) := Row1 HFd.out.T.gr k hlt
                          have f2 : (wc.drewN m).cell? ⟨gg, k, none⟩ = some (.pointer (some ⟨A1.nds.getD k 0, 0, none⟩)) := Row1 Hown.out k hlt
                          have Hd : Hid (∀ q, (wc.drewN m).drewN q = wc.drewN (m + q)) := fun q => World.drewN_drewN _ _ _
                          generalize A1.nds.getD k 0 = x at f1 f2
                          generalize wc.drewN m = W1 at f1 f2 Hd ⊢
                          go_wp2_with fail
                          go_quiet (fail)
                          go_wp2_with fail
                          go_roundw
                          case rel => exact ⟨k + 1, m + nq, by omega, by go_num, Hd.out nq⟩
                          case measure => simp [intOf]; omega
                        · have Hend : Hid (Below w.heap.size w (wc.drewN m)) := (HFd.out.ones ((Ones.refl wc).drewN m)).b
                          go_wp2_with fail
                          go_ret
                          exact ⟨rfl, Hend.out⟩

end Go.Proofs.Qxb6612650aDoor.tb
