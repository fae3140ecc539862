import Derived.Test.Qxb6612650aDoorRows
import Derived.Test.Qxb6612650aDoorTie
import Derived.Test.Qxb6612650aDoorCards
import Derived.Test.Qxb6612650aDoorLaw0
import Derived.Test.Qxb6612650aDoorLaw1
import Derived.Test.Qxb6612650aDoorLawX
import Derived.ProofKit
import Derived.LaidMore
import Derived.OpenShut
import Derived.Stop.Joined
import Derived.Lib.LaidTab
import Derived.ChangeVars
import Derived.SevenTiedAt
namespace Go.Proofs.Qxb6612650aDoor.fnTakeBackFreesExactlyTheUnitsGiven
open Go.ChangeShapes Go.WideShapes Go.ChangeAt Go.RowKit
open Go.Proofs.Qxb6612650aDoor.tb (Rd)
set_option linter.unusedVariables false

theorem own : ownKnob Tryd.prog.godebug = none := by kernel_rfl
theorem laidOut : laidOutB Tryd.prog = true := by kernel_rfl
/-- The listed variable's name, out of the given row. -/
def resName : String := Rows.fnTakeBackFreesExactlyTheUnitsGivenSpec.vars.headD ""
theorem gRes : Tryd.prog.globalNamed resName = some 0 := by kernel_rfl
theorem tRes : (Tryd.prog.globals[0]?).map (·.type) = some 87 := by kernel_rfl
theorem cells54 : Tryd.prog.cellsOf 54 = 1 := by kernel_rfl
theorem cells87 : Tryd.prog.cellsOf 87 = 2 := by kernel_rfl

/-- The door's own heap meets the condition. -/
theorem door_met (os : Os) (args : Array Value) : laidMetH Tryd.prog Rows.fnTakeBackFreesExactlyTheUnitsGivenRow.laid ((World.doorLaid Tryd.prog 400 os).forCall (fun _ _ => 0) ⟨#[], args, []⟩).memory :=
  laidMetH_of_parts3 (fuel := 8) (laidMet_of_run' 8 (by kernel_rfl) (by kernel_rfl)) (by kernel_rfl) (by kernel_rfl)

/-- What the condition gives the walk: the variable's two cells. -/
theorem of_laid {W : World} (h : laidMetH Tryd.prog Rows.fnTakeBackFreesExactlyTheUnitsGivenRow.laid W) : W.cell? ⟨0, 0, none⟩ = some (.int .i64 0) ∧ W.cell? ⟨0, 1, none⟩ = some (.int .i64 1) := by
  rw [MakeChecks.laidMetH_plain _ _ _ (by kernel_rfl)] at h
  have hT : Lib.TabIs Tryd.prog W resName .i64 [0, 1] := Lib.tabIs_of_head (rest := []) gRes tRes Tryd.underlying87 Tryd.underlying54 cells54 cells87 h
  exact ⟨hT.cell gRes 0 (by decide), hT.cell gRes 1 (by decide)⟩

/-- WHAT THE WALK IS TOLD OF A SLICE OF INTEGERS THAT CAME IN. -/
def IsRow (k : IntKind) (w : World) (a : Option Addr) (len cap : Nat) (zs : List Int) : Prop :=
  (a = none ∧ len = 0 ∧ cap = 0 ∧ zs = []) ∨
  ∃ x, a = some x ∧ len ≤ cap ∧ cap ≤ maxLen ∧ zs.length = cap ∧ (∀ i, i < zs.length → w.cell? (x.add i) = some (.int k (zs.getD i 0))) ∧ ∀ n ∈ zs, (Lit.int k n).wf = true
theorem IsRow.rd {k : IntKind} {w : World} {a : Option Addr} {len cap : Nat} {zs : List Int} (h : IsRow k w a len cap zs) : ∃ l : List Int, l.length = len ∧ len ≤ maxLen ∧ Rd w.heap.size w k a l := by
  rcases h with ⟨rfl, rfl, rfl, rfl⟩ | ⟨x, rfl, h1, h2, h3, h4, _⟩
  · exact ⟨[], rfl, Nat.zero_le _, fun i hi => absurd hi (by simp)⟩
  · refine ⟨zs.take len, by simp; omega, by omega, fun i hi => ?_⟩
    have hi' : i < zs.length := by simp at hi; omega
    have hil : i < len := by simp at hi; omega
    obtain ⟨b, off, spot⟩ := x
    have hc := h4 i hi'
    have hspot : spot = none := by simpa [Addr.add] using World.cell?_spot (h4 0 (by omega))
    subst hspot
    rw [add_plain] at hc
    refine ⟨b, off, rfl, World.block_lt_of_cell? w _ hc, ?_⟩
    rw [hc]
    simp [List.getD_eq_getElem?_getD, hil]

theorem walk (a0 a1 a5 : Option Addr) (n0 n1 n5 k0 k1 k5 : Nat) (z0 z1 z5 : List Int) (sw ao : Bool) (r : Int) (w : World) (w0 : IsRow .u8 w a0 n0 k0 z0) (w1 : IsRow .u8 w a1 n1 k1 z1) (w5 : IsRow .i64 w a5 n5 k5 z5)
    (hv : w.cell? ⟨0, 0, none⟩ = some (.int .i64 0) ∧ w.cell? ⟨0, 1, none⟩ = some (.int .i64 1)) :
    Calls Tryd.prog 3 #[.slice a0 n0 k0, .slice a1 n1 k1, .bool sw, .bool ao, .int .i64 r, .slice a5 n5 k5] w fun e w' => e = .returned (.bool true) ∧ Below w.heap.size w w' := by
  obtain ⟨C, rfl, m0, rC⟩ := w0.rd
  obtain ⟨M, rfl, m1, rM⟩ := w1.rd
  obtain ⟨U, rfl, m5, rU⟩ := w5.rd
  by_cases hl : C.length ≤ 32768 ∧ M.length ≤ 32768 ∧ U.length ≤ 32768
  · obtain ⟨hC, hM, hU⟩ := hl
    by_cases hr0 : r = 0
    · subst hr0
      exact tb.law_0 a0 a1 a5 k0 k1 k5 C M U sw ao w hC hM hU rC rM rU hv
    · by_cases hr1 : r = 1
      · subst hr1
        exact tb.law_1 a0 a1 a5 k0 k1 k5 C M U sw ao w hC hM hU rC rM rU hv
      · exact tb.law_other a0 a1 a5 k0 k1 k5 C M U sw ao r hr0 hr1 w hC hM hU rU
  · exact tb.law_long a0 a1 a5 C.length M.length U.length k0 k1 k5 sw ao r w m0 m1 m5 hl

theorem is_row {k : IntKind} {t e : TypeId} {H : Type} {enc : TypeId × Value → H} {W : World} {a : Option Addr} {len cap : Nat} {d : DataW H} {p : List MemPlace} (ht : Tryd.prog.underlying t = some (.slice e)) (he : Tryd.prog.underlying e = some (.int k)) (hc : Tryd.prog.cellsOf e = 1)
    (h : DataW.Trod enc Tryd.prog W 0 (fun _ => true) true t (.slice a len cap) d p) : ∃ zs, IsRow k W a len cap zs := by
  obtain ⟨fuel, hf⟩ := h
  rcases open_ints ht he hc hf with ⟨hcs, _⟩ | ⟨x, l, c, zs, hcs, _, hl, hm, hz, _, hcell, hwz⟩
  · simp [Value.cells] at hcs
    obtain ⟨rfl, rfl, rfl⟩ := hcs
    exact ⟨[], .inl ⟨rfl, rfl, rfl, rfl⟩⟩
  · simp [Value.cells] at hcs
    obtain ⟨rfl, rfl, rfl⟩ := hcs
    exact ⟨zs, .inr ⟨_, rfl, hl, hm, by simpa using hz, hcell, hwz⟩⟩

set_option maxRecDepth 100000 in
theorem lifted (os : Os) (started : os.Started) (H : Type) (enc : TypeId × Value → H) :
    ReturnsInHanded {} Tryd.checked os 3 .any (fun w args => (Rows.fnTakeBackFreesExactlyTheUnitsGivenSpec.pre enc Tryd.prog Tryd.f3 [] false w args ∧ laidMetH Tryd.prog Rows.fnTakeBackFreesExactlyTheUnitsGivenRow.laid w) ∧ sizedMet enc Tryd.prog Tryd.f3 (OpenSpec.ofChange Rows.fnTakeBackFreesExactlyTheUnitsGivenSpec) false w args)
      (Rows.fnTakeBackFreesExactlyTheUnitsGivenSpec.post enc Tryd.prog Tryd.f3 false true false false) := by
  refine returnsInHanded_of_change_and (C := Tryd.checked) (X := fun w _ => laidMetH Tryd.prog Rows.fnTakeBackFreesExactlyTheUnitsGivenRow.laid w) (fun _ _ _ hh h => h.of_heap hh) own started (by kernel_rfl) Tryd.func3
    (ChangeSpec.witness_shaped (enc := enc) (C := Tryd.checked) (os := os) (X := fun w _ => laidMetH Tryd.prog Rows.fnTakeBackFreesExactlyTheUnitsGivenRow.laid w) false (World.doorLaid Tryd.prog 400 os) #[.slice none 0 0, .slice none 0 0, .bool false, .bool false, .int .i64 0, .slice none 0 0] 8 rfl (World.shaped_of_RefB (by kernel_rfl) (by kernel_rfl)) (by kernel_rfl) (by kernel_rfl) (by kernel_rfl) (door_met os _)) ?_
  intro W base args ds gs before hval0 hW _ _ hL _
  have hval : ∀ (j : Nat) t v, Tryd.f3.params[j]? = some t → args[j]? = some v → Value.okWide Tryd.prog W .any base t v := hval0
  have hW' := hW
  obtain ⟨p, q, hA0, hV, rfl, hfz, hnd⟩ := hW
  have hA : DataW.TrodAll enc Tryd.prog W 0 (fun _ => true) true Tryd.f3.params.toList args.toList ds p := hA0
  rw [Tryd.params3] at hA hval
  obtain ⟨v0, vs0, d0, ds0, p0, q0, hargs, rfl, rfl, h0, r0⟩ := trodAll_cons hA
  obtain ⟨v1, vs1, d1, ds1, p1, q1, rfl, rfl, rfl, h1, r1⟩ := trodAll_cons r0
  obtain ⟨v2, vs2, d2, ds2, p2, q2, rfl, rfl, rfl, h2, r2⟩ := trodAll_cons r1
  obtain ⟨v3, vs3, d3, ds3, p3, q3, rfl, rfl, rfl, h3, r3⟩ := trodAll_cons r2
  obtain ⟨v4, vs4, d4, ds4, p4, q4, rfl, rfl, rfl, h4, r4⟩ := trodAll_cons r3
  obtain ⟨v5, vs5, d5, ds5, p5, q5, rfl, rfl, rfl, h5, r5⟩ := trodAll_cons r4
  obtain ⟨rfl, rfl, rfl⟩ := trodAll_nil r5
  obtain rfl : args = #[v0, v1, v2, v3, v4, v5] := by cases args; simp_all
  have hV1 : DataW.TrodVars enc Tryd.prog W (fun _ => true) [resName] gs q := hV
  obtain ⟨g, tg, cs, fuel, dv, pg, rfl, hg, htg, hvar, htr, hq⟩ := trodVars_one hV1
  obtain rfl := Option.some.inj (gRes.symm.trans hg)
  obtain rfl := Option.some.inj (tRes.symm.trans htg)
  obtain ⟨a0, n0, c0, rfl⟩ := okWide_slice Tryd.underlying22 (hval 0 22 v0 rfl rfl)
  obtain ⟨a1, n1, c1, rfl⟩ := okWide_slice Tryd.underlying22 (hval 1 22 v1 rfl rfl)
  obtain ⟨a5, n5, c5, rfl⟩ := okWide_slice Tryd.underlying23 (hval 5 23 v5 rfl rfl)
  have k0 := h0
  have k1 := h1
  have k5 := h5
  have lt0 : ∀ x ∈ p0, x.block < W.heap.size := by obtain ⟨m, hm⟩ := k0; exact DataW.trod_lt m _ _ _ hm
  have lt1 : ∀ x ∈ p1, x.block < W.heap.size := by obtain ⟨m, hm⟩ := k1; exact DataW.trod_lt m _ _ _ hm
  have lt5 : ∀ x ∈ p5, x.block < W.heap.size := by obtain ⟨m, hm⟩ := k5; exact DataW.trod_lt m _ _ _ hm
  have ltg : ∀ x ∈ pg, x.block < W.heap.size := DataW.trod_lt _ _ _ _ htr
  obtain ⟨z0, w0⟩ := is_row Tryd.underlying22 Tryd.underlying5 (by kernel_rfl) h0
  obtain ⟨z1, w1⟩ := is_row Tryd.underlying22 Tryd.underlying5 (by kernel_rfl) h1
  obtain ⟨z5, w5⟩ := is_row Tryd.underlying23 Tryd.underlying3 (by kernel_rfl) h5
  obtain ⟨b2, rfl, rfl, rfl⟩ := open_bool Tryd.underlying4 (hval 2 4 v2 rfl rfl) h2
  obtain ⟨b3, rfl, rfl, rfl⟩ := open_bool Tryd.underlying4 (hval 3 4 v3 rfl rfl) h3
  obtain ⟨r, rfl, rfl, rfl, wr⟩ := open_int Tryd.underlying3 (hval 4 3 v4 rfl rfl) h4
  have hcells := of_laid hL
  have kg : DataW.Trod enc Tryd.prog W 0 (fun _ => true) true 87 (.agg cs) dv pg := ⟨fuel, htr⟩
  clear hA0 hval0
  refine (walk a0 a1 a5 n0 n1 n5 c0 c1 c5 z0 z1 z5 b2 b3 r W w0 w1 w5 hcells).mono fun e W' ⟨he, bel⟩ => ?_
  subst he
  obtain ⟨fuel', htr'⟩ := Below.trod laidOut (by kernel_rfl) (of_decide_eq_true (by kernel_rfl)) kg bel ltg
  have vars' : DataW.TrodVars enc Tryd.prog W' (fun b => decide (b < W.heap.size)) [resName] [dv] (MemPlace.row ⟨0, 0, none⟩ cs.size ++ pg) :=
    trodVars_mk1 gRes tRes (var?_below bel gRes (World.block_lt_of_cell? W _ hcells.1) hvar) htr'
  exact ⟨_, rfl, _, _, _, [], _, _, hW', trodAll_mk1 (shut_bool Tryd.underlying4 _),
    (trodAll_cons_mk (Below.trod laidOut (by kernel_rfl) (of_decide_eq_true (by kernel_rfl)) k0 bel lt0) (trodAll_cons_mk (Below.trod laidOut (by kernel_rfl) (of_decide_eq_true (by kernel_rfl)) k1 bel lt1) (trodAll_cons_mk (shut_bool Tryd.underlying4 _) (trodAll_cons_mk (shut_bool Tryd.underlying4 _) (trodAll_cons_mk (shut_int Tryd.underlying3 wr) (trodAll_cons_mk (Below.trod laidOut (by kernel_rfl) (of_decide_eq_true (by kernel_rfl)) k5 bel lt5) trodAll_mk0)))))),
    vars', bel.frame _, fun h => by cases h⟩

theorem over : Rows.FnTakeBackFreesExactlyTheUnitsGivenSaid :=
  OpenClaim.holds_of_wide 3 Tryd.f3 rfl rfl rfl rfl rfl rfl rfl ⟨rfl, rfl, rfl, rfl, rfl⟩ rfl rfl rfl rfl rfl (by kernel_rfl) Tryd.func3 (by kernel_rfl)
    (of_decide_eq_true (by kernel_rfl)) (by unfold Func.isWrapper; first | (rw [if_pos (by decide +kernel)]; kernel_rfl) | (rw [if_neg (by decide +kernel)]; exact ⟨rfl, rfl⟩))
    (fun os started H enc _ => lifted os started H enc)

/-- ████ THE STATEMENT: THE TIED CARD ████ -/
theorem proved : Rows.FnTakeBackFreesExactlyTheUnitsGivenCardSaid :=
  Claim7.holds_tied_plain_at .later [] [.widerDeep] true Rows.fnTakeBackFreesExactlyTheUnitsGivenCard.stood.harness false
    over (fun _ h => by cases h) (by kernel_rfl) (fun _ h => by cases h) fnTakeBackFreesExactlyTheUnitsGiven_row_tie rfl ⟨rfl, rfl⟩ (by kernel_rfl) rfl
    (fun f fn hf hfn => by
      obtain rfl : f = 3 := Option.some.inj ((show Tryd.prog.funcNamed Rows.fnTakeBackFreesExactlyTheUnitsGivenRow.func = some 3 by kernel_rfl).symm.trans hf) |>.symm
      obtain rfl : fn = Tryd.f3 := (Option.some.inj (Tryd.func3.symm.trans hfn)).symm
      exact ⟨by kernel_rfl, fun j t ht => by
        rw [Tryd.params3] at ht
        have h6 : t = 22 ∨ t = 4 ∨ t = 3 ∨ t = 23 := by
          rcases j with _ | _ | _ | _ | _ | _ | j <;> simp at ht <;> first | exact .inl ht.symm | exact .inr (.inl ht.symm) | exact .inr (.inr (.inl ht.symm)) | exact .inr (.inr (.inr ht.symm))
        rcases h6 with rfl | rfl | rfl | rfl
        · exact (show Tryd.prog.wantsStandIn 22 = false by kernel_rfl)
        · exact (show Tryd.prog.wantsStandIn 4 = false by kernel_rfl)
        · exact (show Tryd.prog.wantsStandIn 3 = false by kernel_rfl)
        · exact (show Tryd.prog.wantsStandIn 23 = false by kernel_rfl)⟩)
    (by kernel_rfl)
end Go.Proofs.Qxb6612650aDoor.fnTakeBackFreesExactlyTheUnitsGiven
