import Derived.Test.Qxb6612650aDoorBase
namespace Go.Proofs.Qxb6612650aDoor.tb
open Go.ChangeShapes Go.WideShapes Go.ChangeAt Go.RowKit

/-- A slice of integers that can be read: each element lies in a block below B. -/
def Rd (B : Nat) (w : World) (k : IntKind) (a : Option Addr) (l : List Int) : Prop :=
  ∀ i, i < l.length → ∃ b off, a = some ⟨b, off, none⟩ ∧ b < B ∧ w.cell? ⟨b, off + i, none⟩ = some (.int k (l.getD i 0))
theorem Rd.below {B : Nat} {w w' : World} {k : IntKind} {a : Option Addr} {l : List Int} (h : Rd B w k a l) (hb : Below B w w') : Rd B w' k a l := by
  intro i hi
  obtain ⟨b, off, e, hlt, hc⟩ := h i hi
  exact ⟨b, off, e, hlt, (hb.cell (by exact hlt)).trans hc⟩
theorem Rd.mono {B B' : Nat} {w : World} {k : IntKind} {a : Option Addr} {l : List Int} (h : Rd B w k a l) (hB : B ≤ B') : Rd B' w k a l := by
  intro i hi
  obtain ⟨b, off, e, hlt, hc⟩ := h i hi
  exact ⟨b, off, e, by omega, hc⟩

def c1 (l : List Int) : Nat := l.countP (· == 1)
def c2 (l : List Int) : Nat := l.countP (· == 2)
def cf (l : List Int) : Nat := l.countP fun x => !(x == 1) && !(x == 2)
theorem take_snoc (l : List Int) (k : Nat) (h : k < l.length) : l.take (k + 1) = l.take k ++ [l.getD k 0] := by
  rw [List.take_succ_eq_append_getElem h]; simp [List.getD_eq_getElem?_getD, h]
theorem c1_le (l : List Int) (k : Nat) : c1 (l.take k) ≤ k := Nat.le_trans List.countP_le_length (List.length_take_le _ _)
theorem c2_le (l : List Int) (k : Nat) : c2 (l.take k) ≤ k := Nat.le_trans List.countP_le_length (List.length_take_le _ _)
theorem cf_le (l : List Int) (k : Nat) : cf (l.take k) ≤ k := Nat.le_trans List.countP_le_length (List.length_take_le _ _)
theorem cs_snoc (l : List Int) (k : Nat) (h : k < l.length) (x : Int) (hx : x = l.getD k 0) :
    c1 (l.take (k + 1)) = c1 (l.take k) + (if x = 1 then 1 else 0) ∧ c2 (l.take (k + 1)) = c2 (l.take k) + (if x = 1 then 0 else if x = 2 then 1 else 0) ∧ cf (l.take (k + 1)) = cf (l.take k) + (if x = 1 then 0 else if x = 2 then 0 else 1) := by
  subst hx
  rw [take_snoc l k h]
  unfold c1 c2 cf
  generalize l.getD k 0 = x
  simp only [List.countP_append, List.countP_cons, List.countP_nil]
  by_cases h1 : x = 1
  · subst h1; simp
  · by_cases h2 : x = 2
    · subst h2; simp
    · simp [h1, h2]

set_option maxHeartbeats 1000000 in
theorem z7 {B : Nat} (a : Option Addr) (cap : Nat) (l : List Int) (w : World) (hl : l.length ≤ 1048576) (hR : Rd B w .u8 a l) :
    Calls Tryd.prog 7 #[.slice a l.length cap] w fun e w' => e = .returned (.tuple #[.int .i64 (c1 l), .int .i64 (c2 l), .int .i64 (cf l)]) ∧ w = w' := by
  have HR : Hid (Rd B w .u8 a l) := hR
  clear hR
  generalize hn : l.length = n
  have Hn : Hid (l.length = n) := hn
  rw [hn] at hl
  clear hn
  go_enter Tryd.func7, Tryd.ntmps7
  go_wp2
  go_loop [5, 6, 7, 8] (fun s t f i => ∃ k : Nat, k ≤ n ∧ i = .int .i64 k ∧ s = .int .i64 (c1 (l.take k)) ∧ t = .int .i64 (c2 (l.take k)) ∧ f = .int .i64 (cf (l.take k))) (fun _ _ _ i => n - (intOf i).toNat)
  case atStart => exact ⟨0, Nat.zero_le _, rfl, rfl, rfl, rfl⟩
  case round =>
    obtain ⟨k, hk, rfl, rfl, rfl, rfl⟩ := hrel
    have q1 := c1_le l k
    have q2 := c2_le l k
    have q3 := cf_le l k
    by_cases hlt : k < n
    · obtain ⟨b, off, ha, _, hc⟩ := HR.out k (by rw [Hn.out]; exact hlt)
      obtain ⟨x, hx⟩ : ∃ x, x = l.getD k 0 := ⟨_, rfl⟩
      have HS : Hid _ := cs_snoc l k (by rw [Hn.out]; exact hlt) x hx
      rw [← hx] at hc
      subst ha
      clear hx
      by_cases h1 : x = 1
      · have e1 : (x == 1) = true := by simp [h1]
        have HT : Hid _ := HS.out
        rw [if_pos h1, if_pos h1, if_pos h1] at HT
        clear h1 HS
        go_wp2
        go_round
        case rel => exact ⟨k + 1, by omega, by go_num, by rw [HT.out.1]; go_num, by rw [HT.out.2.1]; rfl, by rw [HT.out.2.2]; rfl⟩
        case measure => simp [intOf]; omega
      · have e1 : (x == 1) = false := by simp [h1]
        by_cases h2 : x = 2
        · have e2 : (x == 2) = true := by simp [h2]
          have HT : Hid _ := HS.out
          rw [if_neg h1, if_neg h1, if_neg h1, if_pos h2, if_pos h2] at HT
          clear h1 h2 HS
          go_wp2
          go_round
          case rel => exact ⟨k + 1, by omega, by go_num, by rw [HT.out.1]; rfl, by rw [HT.out.2.1]; go_num, by rw [HT.out.2.2]; rfl⟩
          case measure => simp [intOf]; omega
        · have e2 : (x == 2) = false := by simp [h2]
          have HT : Hid _ := HS.out
          rw [if_neg h1, if_neg h1, if_neg h1, if_neg h2, if_neg h2] at HT
          clear h1 h2 HS
          go_wp2
          go_round
          case rel => exact ⟨k + 1, by omega, by go_num, by rw [HT.out.1]; rfl, by rw [HT.out.2.1]; rfl, by rw [HT.out.2.2]; go_num⟩
          case measure => simp [intOf]; omega
    · have hkn : k = n := by omega
      have ht : l.take k = l := List.take_of_length_le (by rw [Hn.out]; omega)
      rw [ht]
      clear ht
      go_wp2
      go_ret3
      exact ⟨rfl, rfl⟩

theorem z5 (a0 a1 a5 : Option Addr) (n0 c0 n1 c1 n5 c5 : Nat) (b2 b3 : Bool) (r : Int) (w : World) (h0 : n0 ≤ maxLen) (h1 : n1 ≤ maxLen) (h5 : n5 ≤ maxLen) :
    Calls Tryd.prog 5 #[.slice a0 n0 c0, .slice a1 n1 c1, .bool b2, .bool b3, .int .i64 r, .slice a5 n5 c5] w fun e w' => (∃ b : Bool, e = .returned (.bool b)) ∧ w = w' := by
  unfold maxLen at h0 h1 h5
  go_enter Tryd.func5, Tryd.ntmps5
  go_wp2
  all_goals
    go_ret
    exact ⟨⟨_, rfl⟩, rfl⟩

theorem info31 : (Tryd.prog.info? 31).map (fun i => (i.zero, i.size, i.bytes)) = some (some (.pointer none), 1, 8) := by kernel_rfl
theorem info32 : (Tryd.prog.info? 32).map (fun i => (i.zero, i.size, i.bytes)) = some (some (.pointer none), 1, 8) := by kernel_rfl
theorem info4 : (Tryd.prog.info? 4).map (fun i => (i.zero, i.size, i.bytes)) = some (some (.bool false), 1, 1) := by kernel_rfl
theorem info3 : (Tryd.prog.info? 3).map (fun i => (i.zero, i.size, i.bytes)) = some (some (.int .i64 0), 1, 8) := by kernel_rfl

theorem grown_set {w wr : World} {row : Option Nat} (h : w.grownBy wr row) {b o : Nat} (hb : w.heap.size ≤ b) (v : Value) : w.grownBy (wr.setCell ⟨b, o, none⟩ v) row :=
  ⟨h.os, h.tape, h.output, by simpa [World.setCell] using h.size, fun k hk hne => (Below.heap_setCell _ _ _ _ (by simp; omega)).trans (h.block k hk hne)⟩

/-- The owners behind k rounds: the first k laid, the others nil. -/
def ownK (s t : Nat) (l : List Int) (k : Nat) : List (Option Nat) := (l.take k).map (code s t) ++ List.replicate (l.length - k) none
def owners (s t : Nat) (l : List Int) : List (Option Nat) := l.map (code s t)
theorem ownK_zero (s t : Nat) (l : List Int) : (ownK s t l 0).map pv = List.replicate l.length (.pointer none) := by simp [ownK, pv]
theorem ownK_full (s t : Nat) (l : List Int) (k : Nat) (h : l.length ≤ k) : ownK s t l k = owners s t l := by
  simp [ownK, owners, List.take_of_length_le h, Nat.sub_eq_zero_of_le h]
theorem ownK_set (s t : Nat) (l : List Int) (k : Nat) (h : k < l.length) : ((ownK s t l k).map pv).set k (pv (code s t (l.getD k 0))) = (ownK s t l (k + 1)).map pv := by
  unfold ownK
  rw [take_snoc l k h, show l.length - k = (l.length - (k + 1)) + 1 by omega, List.replicate_succ]
  have hl : ((l.take k).map (code s t)).length = k := by simp; omega
  simp only [List.map_append, List.map_cons, List.map_nil, List.append_assoc]
  rw [List.set_append_right _ _ (by simp; omega)]
  simp [Nat.min_eq_left (Nat.le_of_lt h)]

set_option maxRecDepth 100000 in
set_option maxHeartbeats 1000000 in
theorem z21 {B : Nat} (a : Option Addr) (cap s t : Nat) (l : List Int) (w : World) (hl : l.length ≤ 1048576) (hR : Rd B w .u8 a l) (hB : B ≤ w.heap.size) :
    Calls Tryd.prog 21 #[.slice a l.length cap, .pointer (some ⟨s, 0, none⟩), .pointer (some ⟨t, 0, none⟩)] w fun e w' => e = .returned (.slice (some ⟨w.heap.size, 0, none⟩) l.length l.length) ∧
      w'.ownsRow w.heap.size 31 1 (.slice (some ⟨w.heap.size, 0, none⟩) l.length l.length) l.length ((owners s t l).map pv) ∧ w.grownBy w' none := by
  obtain ⟨i0, hi, hz0, hz1, hz2⟩ := info_parts info31
  have HR : Hid (Rd B w .u8 a l) := hR
  clear hR
  have HF : Hid (ownK s t l l.length = owners s t l) := ownK_full s t l _ (Nat.le_refl _)
  have H0 : Hid ((ownK s t l 0).map pv = List.replicate l.length (.pointer none)) := ownK_zero s t l
  have HS : Hid (∀ k, k < l.length → ((ownK s t l k).map pv).set k (pv (code s t (l.getD k 0))) = (ownK s t l (k + 1)).map pv) := ownK_set s t l
  generalize hn : l.length = n at *
  have Hn : Hid (l.length = n) := hn
  clear hn
  go_enter Tryd.func21, Tryd.ntmps21
  go_wp2_with (at_make; (refine wpList_make_full _ rfl _ _ 44 rfl w.heap.size 31 i0 (.pointer none) 1 Tryd.underlying44 hi hz0 hz1 .i64 .i64 _ _ n rfl rfl rfl rfl ?c1 ?c2 ?c3 ?_))
  case c1 => rw [hz2]; omega
  case c2 => unfold maxLen; omega
  case c3 => exact Nat.le_refl _
  intro w1 hown hg
  go_wp2
  go_loopw [8] (fun i wr => ∃ k : Nat, k ≤ n ∧ i = .int .i64 k ∧ wr.ownsRow w.heap.size 31 1 (.slice (some ⟨w.heap.size, 0, none⟩) n n) n ((ownK s t l k).map pv) ∧ w.grownBy wr none) (fun i _ => n - (intOf i).toNat)
  case atStart =>
    refine ⟨0, Nat.zero_le _, rfl, ?_, hg⟩
    rw [H0.out]
    simpa [toList_madeCells_one, Value.cells] using hown
  case round =>
    obtain ⟨k, hk, rfl, hownr, hgr⟩ := hrel
    clear hown hg
    by_cases hlt : k < n
    · obtain ⟨b, off, ha, hbB, hc⟩ := HR.out k (by rw [Hn.out]; exact hlt)
      have hcx : wr.cell? ⟨b, off + k, none⟩ = some (.int .u8 (l.getD k 0)) := (World.cell?_of_block (hgr.block b (by omega) (by simp))).trans hc
      have hf := hownr.frozenAt k
      obtain ⟨v0, hv0⟩ : ∃ v0, wr.cell? ⟨w.heap.size, k, none⟩ = some v0 := by
        rw [hownr.cellAt k (by omega)]
        exact ⟨_, List.getElem?_eq_getElem (by rw [hownr.1]; omega)⟩
      have HX : Hid _ := HS.out k hlt
      subst ha
      clear hc
      generalize l.getD k 0 = x at hcx HX
      obtain ⟨p, hp⟩ : ∃ p, pv (code s t x) = .pointer p := ⟨_, rfl⟩
      have hst := hownr.stored k (.pointer p)
      rw [← hp, HX.out] at hst
      have Hst : Hid _ := hst
      clear hst
      have hgr2 := grown_set hgr (b := w.heap.size) (o := k) (Nat.le_refl _) (.pointer p)
      go_wp2_with (go_at_call 25; refine (z25 s t x _).mono ?_; rintro e w2 ⟨rfl, rfl⟩; rw [hp])
      go_roundw
      case rel => exact ⟨k + 1, by omega, by go_num, by rw [← hp]; exact Hst.out.1, by exact hgr2⟩
      case measure => simp [intOf]; omega
    · have hkn : k = n := by omega
      subst hkn
      rw [HF.out] at hownr
      go_wp2
      go_ret
      exact ⟨rfl, hownr, hgr⟩

/-! ### THE PREMISE -/
/-- Which cells are taken. -/
def tk (n : Nat) (U : List Int) : List Value := (List.range n).map fun (i : Nat) => .bool (decide ((i : Int) ∈ U))
theorem tk_length (n : Nat) (U : List Int) : (tk n U).length = n := by simp [tk]
theorem tk_get (n : Nat) (U : List Int) (i : Nat) (h : i < n) : (tk n U)[i]? = some (.bool (decide ((i : Int) ∈ U))) := by simp [tk, h]
theorem tk_nil (n : Nat) : tk n [] = List.replicate n (.bool false) := by
  apply List.ext_getElem (by simp [tk])
  intro i h1 h2
  simp [tk]
theorem tk_set (n : Nat) (U : List Int) (u : Nat) : (tk n U).set u (.bool true) = tk n (U ++ [(u : Int)]) := by
  apply List.ext_getElem (by simp [tk])
  intro i h1 h2
  rw [List.getElem_set]
  by_cases h : u = i
  · subst h; simp [tk]
  · simp [tk, h]; omega
/-- The first units are units of s, each once. -/
def Good (D U : List Int) : Prop := (∀ u ∈ U, 0 ≤ u ∧ u < D.length ∧ D.getD u.toNat 0 = 1) ∧ U.Nodup
theorem Good.snoc {D U : List Int} (h : Good D U) (u : Nat) (hu : u < D.length) (hd : D.getD u 0 = 1) (hn : (u : Int) ∉ U) : Good D (U ++ [(u : Int)]) := by
  refine ⟨fun v hv => ?_, ?_⟩
  · rcases List.mem_append.1 hv with h1 | h1
    · exact h.1 v h1
    · simp at h1; subst h1; exact ⟨by omega, by omega, by simpa using hd⟩
  · rw [List.nodup_append]
    refine ⟨h.2, by simp, ?_⟩
    intro a ha b hb e
    simp at hb
    subst hb; subst e
    exact hn ha
structure Prem (C M D U : List Int) (sw : Bool) : Prop where
  some : c1 C + c1 M ≠ 0
  whole : sw = true → c2 C + c2 M = 0
  good : Good D U
/-- What tbPremise leaves. -/
def PPost (C M D U : List Int) (sw : Bool) (w : World) (e : Ending) (w' : World) : Prop := ∃ (tv : Value) (ok : Bool), e = .returned (.tuple #[tv, .bool ok]) ∧ w.grownBy w' none ∧
  (ok = true → Prem C M D U sw ∧ tv = .slice (some ⟨w.heap.size, 0, none⟩) D.length D.length ∧ w'.ownsRow w.heap.size 4 1 (.slice (some ⟨w.heap.size, 0, none⟩) D.length D.length) D.length (tk D.length U))
theorem PPost.no {C M D U : List Int} {sw : Bool} {w w' : World} (v : Value) (h : w.grownBy w' none) : PPost C M D U sw w (.returned (.tuple #[v, .bool false])) w' := ⟨v, false, rfl, h, by intro h; cases h⟩
theorem PPost.yes {C M D U : List Int} {sw : Bool} {w w' : World} (nD : Nat) (hn : D.length = nD) (h : w.grownBy w' none) (p : Prem C M D U sw) (ho : w'.ownsRow w.heap.size 4 1 (.slice (some ⟨w.heap.size, 0, none⟩) nD nD) nD (tk nD U)) :
    PPost C M D U sw w (.returned (.tuple #[.slice (some ⟨w.heap.size, 0, none⟩) nD nD, .bool true])) w' := by
  subst hn
  exact ⟨_, true, rfl, h, fun _ => ⟨p, rfl, ho⟩⟩
theorem lt_maxLen {n : Nat} (h : n ≤ 1048576) : n ≤ maxLen := by unfold maxLen; omega

theorem z6_other (a0 a1 a5 : Option Addr) (k0 k1 k5 n0 n1 n5 : Nat) (sw : Bool) (r : Int) (w : World) (h0 : r ≠ 0) (h1 : r ≠ 1) :
    Calls Tryd.prog 6 #[.slice a0 n0 k0, .slice a1 n1 k1, .bool sw, .int .i64 r, .slice a5 n5 k5] w fun e w' => e = .returned (.tuple #[.slice none 0 0, .bool false]) ∧ w' = w := by
  have e0 : (r != 0) = true := by simp [h0]
  have e1 : (r != 1) = true := by simp [h1]
  clear h0 h1
  go_enter Tryd.func6, Tryd.ntmps6
  go_wp2
  go_ret2
  exact ⟨rfl, rfl⟩

set_option maxRecDepth 100000 in
set_option maxHeartbeats 2000000 in
theorem z6_0 {B : Nat} (a0 a1 a5 : Option Addr) (k0 k1 k5 : Nat) (C M U : List Int) (sw : Bool) (w : World) (hC : C.length ≤ 1048576) (hM : M.length ≤ 1048576) (hU : U.length ≤ 1048576)
    (rC : Rd B w .u8 a0 C) (rM : Rd B w .u8 a1 M) (rU : Rd B w .i64 a5 U) (hB : B ≤ w.heap.size) :
    Calls Tryd.prog 6 #[.slice a0 C.length k0, .slice a1 M.length k1, .bool sw, .int .i64 0, .slice a5 U.length k5] w fun e w' => PPost C M C U sw w e w' := by
  obtain ⟨i0, hi, hz0, hz1, hz2⟩ := info_parts info4
  have HrC : Hid (Rd B w .u8 a0 C) := rC
  have HrM : Hid (Rd B w .u8 a1 M) := rM
  have HrU : Hid (Rd B w .i64 a5 U) := rU
  clear rC rM rU
  go_enter Tryd.func6, Tryd.ntmps6
  go_wp2_with fail
  refine (z7 a0 k0 C _ hC HrC.out).mono ?_
  rintro e w' ⟨rfl, rfl⟩
  go_wp2_with fail
  refine (z7 a1 k1 M _ hM HrM.out).mono ?_
  rintro e w' ⟨rfl, rfl⟩
  have q1 := c1_le C C.length
  have q2 := c1_le M M.length
  have q3 := c2_le C C.length
  have q4 := c2_le M M.length
  rw [List.take_length] at q1 q2 q3 q4
  by_cases hsum : c1 C + c1 M = 0
  · have e1 : ((c1 C : Int) + (c1 M : Int) == 0) = true := by simp; omega
    clear hsum
    go_wp2_with fail
    go_ret2
    exact PPost.no _ (World.grownBy.refl _ _)
  have e1 : ((c1 C : Int) + (c1 M : Int) == 0) = false := by simp; omega
  have Hsum : Hid (c1 C + c1 M ≠ 0) := hsum
  clear hsum
  by_cases hwh : sw = true ∧ 0 < c2 C + c2 M
  · obtain ⟨rfl, hpos⟩ := hwh
    have e2 : (0 : Int) < (c2 C : Int) + (c2 M : Int) := by omega
    clear hpos
    go_wp2_with fail
    go_ret2
    exact PPost.no _ (World.grownBy.refl _ _)
  have Hwh : Hid (sw = true → c2 C + c2 M = 0) := fun h => by
    by_cases hz : c2 C + c2 M = 0
    · exact hz
    · exact absurd ⟨h, by omega⟩ hwh
  have e3 : sw = true → ¬ (0 : Int) < (c2 C : Int) + (c2 M : Int) := fun h => by have := Hwh.out h; omega
  clear hwh
  have step : ∀ {K : Prop}, (sw = true → K) → (sw = false → K) → K := fun h1 h2 => by cases sw <;> simp_all
  generalize hnD : C.length = nD at *
  have HnD : Hid (C.length = nD) := hnD
  clear hnD
  generalize hnU : U.length = nU at *
  have HnU : Hid (U.length = nU) := hnU
  clear hnU
  cases sw
  all_goals
    simp only [forall_const, reduceCtorEq, false_implies] at e3
    clear step
    go_wp2_with (at_make; (refine wpList_make_full _ rfl _ _ 25 rfl w.heap.size 4 i0 (.bool false) 1 Tryd.underlying25 hi hz0 hz1 .i64 .i64 _ _ nD rfl rfl rfl rfl ?c1 ?c2 ?c3 ?_))
    case c1 => rw [hz2]; omega
    case c2 => unfold maxLen; omega
    case c3 => exact Nat.le_refl _
    intro w1 hown hg
    have hown2 : w1.ownsRow w.heap.size 4 1 (.slice (some ⟨w.heap.size, 0, none⟩) nD nD) nD (tk nD []) := by
      rw [tk_nil]; simpa [toList_madeCells_one, Value.cells] using hown
    clear hown
    go_wp2
    go_loopw [20] (fun i wr => ∃ k : Nat, k ≤ nU ∧ i = .int .i64 k ∧ wr.ownsRow w.heap.size 4 1 (.slice (some ⟨w.heap.size, 0, none⟩) nD nD) nD (tk nD (U.take k)) ∧ w.grownBy wr none ∧ Good C (U.take k)) (fun i _ => nU - (intOf i).toNat)
    case atStart => exact ⟨0, Nat.zero_le _, rfl, hown2, hg, ⟨by simp, by simp⟩⟩
    case round =>
      obtain ⟨k, hk, rfl, hownr, hgr, hgood⟩ := hrel
      clear hown2 hg
      have Hgood : Hid (Good C (U.take k)) := hgood
      clear hgood
      by_cases hlt : k < nU
      · obtain ⟨b, off, ha, hbB, hc⟩ := HrU.out k (by rw [HnU.out]; exact hlt)
        have hcx : wr.cell? ⟨b, off + k, none⟩ = some (.int .i64 (U.getD k 0)) := (World.cell?_of_block (hgr.block b (by omega) (by simp))).trans hc
        subst ha
        clear hc
        have HT : Hid (U.take (k + 1) = U.take k ++ [U.getD k 0]) := take_snoc U k (by rw [HnU.out]; exact hlt)
        generalize U.getD k 0 = u at hcx HT
        by_cases hu0 : u < 0
        · go_wp2
          go_ret2
          exact PPost.no _ hgr
        by_cases hu1 : (nD : Int) ≤ u
        · go_wp2
          go_ret2
          exact PPost.no _ hgr
        obtain ⟨v, rfl⟩ := Int.eq_ofNat_of_zero_le (by omega : 0 ≤ u)
        have hv : v < nD := by omega
        obtain ⟨b', off', ha', hbB', hc'⟩ := HrC.out v (by rw [HnD.out]; exact hv)
        have hcy : wr.cell? ⟨b', off' + v, none⟩ = some (.int .u8 (C.getD v 0)) := (World.cell?_of_block (hgr.block b' (by omega) (by simp))).trans hc'
        subst ha'
        clear hc' hu0 hu1
        obtain ⟨x, hx⟩ : ∃ x, x = C.getD v 0 := ⟨_, rfl⟩
        rw [← hx] at hcy
        have Hx : Hid (x = C.getD v 0) := hx
        clear hx
        have hct : wr.cell? ⟨w.heap.size, v, none⟩ = some (.bool (decide ((v : Int) ∈ U.take k))) := by
          rw [hownr.cellAt v (by omega), tk_get _ _ _ hv]
        have hft := hownr.frozenAt v
        by_cases hx1 : x = 1
        · have e5 : (x != 1) = false := by simp [hx1]
          obtain ⟨bb, hbb⟩ : ∃ bb, bb = decide ((v : Int) ∈ U.take k) := ⟨_, rfl⟩
          rw [← hbb] at hct
          have Hbb : Hid (bb = decide ((v : Int) ∈ U.take k)) := hbb
          have Hx1 : Hid (x = 1) := hx1
          clear hbb hx1
          cases bb
          · have hst := hownr.stored v (.bool true)
            rw [tk_set] at hst
            have Hst : Hid _ := hst
            have hgr2 := grown_set hgr (b := w.heap.size) (o := v) (Nat.le_refl _) (.bool true)
            clear hst
            go_wp2
            go_roundw
            case rel => exact ⟨k + 1, by omega, by go_num, by rw [HT.out]; exact Hst.out.1, hgr2, by rw [HT.out]; exact Hgood.out.snoc v (by rw [HnD.out]; exact hv) (by rw [← Hx.out]; exact Hx1.out) (of_decide_eq_false Hbb.out.symm)⟩
            case measure => simp [intOf]; omega
          · go_wp2
            go_ret2
            exact PPost.no _ hgr
        · have e5 : (x != 1) = true := by simp [hx1]
          clear hx1
          go_wp2
          go_ret2
          exact PPost.no _ hgr
      · have hkn : U.take k = U := List.take_of_length_le (by rw [HnU.out]; omega)
        rw [hkn] at Hgood hownr
        have Hown : Hid _ := hownr
        clear hkn hownr
        go_wp2
        go_ret2
        exact PPost.yes nD HnD.out hgr ⟨Hsum.out, (fun h => by first | exact Hwh.out h | exact Hwh.out trivial), Hgood.out⟩ Hown.out

set_option maxRecDepth 100000 in
set_option maxHeartbeats 2000000 in
theorem z6_1 {B : Nat} (a0 a1 a5 : Option Addr) (k0 k1 k5 : Nat) (C M U : List Int) (sw : Bool) (w : World) (hC : C.length ≤ 1048576) (hM : M.length ≤ 1048576) (hU : U.length ≤ 1048576)
    (rC : Rd B w .u8 a0 C) (rM : Rd B w .u8 a1 M) (rU : Rd B w .i64 a5 U) (hB : B ≤ w.heap.size) :
    Calls Tryd.prog 6 #[.slice a0 C.length k0, .slice a1 M.length k1, .bool sw, .int .i64 1, .slice a5 U.length k5] w fun e w' => PPost C M M U sw w e w' := by
  obtain ⟨i0, hi, hz0, hz1, hz2⟩ := info_parts info4
  have HrC : Hid (Rd B w .u8 a0 C) := rC
  have HrM : Hid (Rd B w .u8 a1 M) := rM
  have HrU : Hid (Rd B w .i64 a5 U) := rU
  clear rC rM rU
  go_enter Tryd.func6, Tryd.ntmps6
  go_wp2_with fail
  refine (z7 a0 k0 C _ hC HrC.out).mono ?_
  rintro e w' ⟨rfl, rfl⟩
  go_wp2_with fail
  refine (z7 a1 k1 M _ hM HrM.out).mono ?_
  rintro e w' ⟨rfl, rfl⟩
  have q1 := c1_le C C.length
  have q2 := c1_le M M.length
  have q3 := c2_le C C.length
  have q4 := c2_le M M.length
  rw [List.take_length] at q1 q2 q3 q4
  by_cases hsum : c1 C + c1 M = 0
  · have e1 : ((c1 C : Int) + (c1 M : Int) == 0) = true := by simp; omega
    clear hsum
    go_wp2_with fail
    go_ret2
    exact PPost.no _ (World.grownBy.refl _ _)
  have e1 : ((c1 C : Int) + (c1 M : Int) == 0) = false := by simp; omega
  have Hsum : Hid (c1 C + c1 M ≠ 0) := hsum
  clear hsum
  by_cases hwh : sw = true ∧ 0 < c2 C + c2 M
  · obtain ⟨rfl, hpos⟩ := hwh
    have e2 : (0 : Int) < (c2 C : Int) + (c2 M : Int) := by omega
    clear hpos
    go_wp2_with fail
    go_ret2
    exact PPost.no _ (World.grownBy.refl _ _)
  have Hwh : Hid (sw = true → c2 C + c2 M = 0) := fun h => by
    by_cases hz : c2 C + c2 M = 0
    · exact hz
    · exact absurd ⟨h, by omega⟩ hwh
  have e3 : sw = true → ¬ (0 : Int) < (c2 C : Int) + (c2 M : Int) := fun h => by have := Hwh.out h; omega
  clear hwh
  have step : ∀ {K : Prop}, (sw = true → K) → (sw = false → K) → K := fun h1 h2 => by cases sw <;> simp_all
  generalize hnD : M.length = nD at *
  have HnD : Hid (M.length = nD) := hnD
  clear hnD
  generalize hnU : U.length = nU at *
  have HnU : Hid (U.length = nU) := hnU
  clear hnU
  cases sw
  all_goals
    simp only [forall_const, reduceCtorEq, false_implies] at e3
    clear step
    go_wp2_with (at_make; (refine wpList_make_full _ rfl _ _ 25 rfl w.heap.size 4 i0 (.bool false) 1 Tryd.underlying25 hi hz0 hz1 .i64 .i64 _ _ nD rfl rfl rfl rfl ?c1 ?c2 ?c3 ?_))
    case c1 => rw [hz2]; omega
    case c2 => unfold maxLen; omega
    case c3 => exact Nat.le_refl _
    intro w1 hown hg
    have hown2 : w1.ownsRow w.heap.size 4 1 (.slice (some ⟨w.heap.size, 0, none⟩) nD nD) nD (tk nD []) := by
      rw [tk_nil]; simpa [toList_madeCells_one, Value.cells] using hown
    clear hown
    go_wp2
    go_loopw [20] (fun i wr => ∃ k : Nat, k ≤ nU ∧ i = .int .i64 k ∧ wr.ownsRow w.heap.size 4 1 (.slice (some ⟨w.heap.size, 0, none⟩) nD nD) nD (tk nD (U.take k)) ∧ w.grownBy wr none ∧ Good M (U.take k)) (fun i _ => nU - (intOf i).toNat)
    case atStart => exact ⟨0, Nat.zero_le _, rfl, hown2, hg, ⟨by simp, by simp⟩⟩
    case round =>
      obtain ⟨k, hk, rfl, hownr, hgr, hgood⟩ := hrel
      clear hown2 hg
      have Hgood : Hid (Good M (U.take k)) := hgood
      clear hgood
      by_cases hlt : k < nU
      · obtain ⟨b, off, ha, hbB, hc⟩ := HrU.out k (by rw [HnU.out]; exact hlt)
        have hcx : wr.cell? ⟨b, off + k, none⟩ = some (.int .i64 (U.getD k 0)) := (World.cell?_of_block (hgr.block b (by omega) (by simp))).trans hc
        subst ha
        clear hc
        have HT : Hid (U.take (k + 1) = U.take k ++ [U.getD k 0]) := take_snoc U k (by rw [HnU.out]; exact hlt)
        generalize U.getD k 0 = u at hcx HT
        by_cases hu0 : u < 0
        · go_wp2
          go_ret2
          exact PPost.no _ hgr
        by_cases hu1 : (nD : Int) ≤ u
        · go_wp2
          go_ret2
          exact PPost.no _ hgr
        obtain ⟨v, rfl⟩ := Int.eq_ofNat_of_zero_le (by omega : 0 ≤ u)
        have hv : v < nD := by omega
        obtain ⟨b', off', ha', hbB', hc'⟩ := HrM.out v (by rw [HnD.out]; exact hv)
        have hcy : wr.cell? ⟨b', off' + v, none⟩ = some (.int .u8 (M.getD v 0)) := (World.cell?_of_block (hgr.block b' (by omega) (by simp))).trans hc'
        subst ha'
        clear hc' hu0 hu1
        obtain ⟨x, hx⟩ : ∃ x, x = M.getD v 0 := ⟨_, rfl⟩
        rw [← hx] at hcy
        have Hx : Hid (x = M.getD v 0) := hx
        clear hx
        have hct : wr.cell? ⟨w.heap.size, v, none⟩ = some (.bool (decide ((v : Int) ∈ U.take k))) := by
          rw [hownr.cellAt v (by omega), tk_get _ _ _ hv]
        have hft := hownr.frozenAt v
        by_cases hx1 : x = 1
        · have e5 : (x != 1) = false := by simp [hx1]
          obtain ⟨bb, hbb⟩ : ∃ bb, bb = decide ((v : Int) ∈ U.take k) := ⟨_, rfl⟩
          rw [← hbb] at hct
          have Hbb : Hid (bb = decide ((v : Int) ∈ U.take k)) := hbb
          have Hx1 : Hid (x = 1) := hx1
          clear hbb hx1
          cases bb
          · have hst := hownr.stored v (.bool true)
            rw [tk_set] at hst
            have Hst : Hid _ := hst
            have hgr2 := grown_set hgr (b := w.heap.size) (o := v) (Nat.le_refl _) (.bool true)
            clear hst
            go_wp2
            go_roundw
            case rel => exact ⟨k + 1, by omega, by go_num, by rw [HT.out]; exact Hst.out.1, hgr2, by rw [HT.out]; exact Hgood.out.snoc v (by rw [HnD.out]; exact hv) (by rw [← Hx.out]; exact Hx1.out) (of_decide_eq_false Hbb.out.symm)⟩
            case measure => simp [intOf]; omega
          · go_wp2
            go_ret2
            exact PPost.no _ hgr
        · have e5 : (x != 1) = true := by simp [hx1]
          clear hx1
          go_wp2
          go_ret2
          exact PPost.no _ hgr
      · have hkn : U.take k = U := List.take_of_length_le (by rw [HnU.out]; omega)
        rw [hkn] at Hgood hownr
        have Hown : Hid _ := hownr
        clear hkn hownr
        go_wp2
        go_ret2
        exact PPost.yes nD HnD.out hgr ⟨Hsum.out, (fun h => by first | exact Hwh.out h | exact Hwh.out trivial), Hgood.out⟩ Hown.out

end Go.Proofs.Qxb6612650aDoor.tb
