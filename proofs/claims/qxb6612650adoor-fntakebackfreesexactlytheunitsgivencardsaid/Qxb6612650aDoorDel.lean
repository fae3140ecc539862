import Derived.Test.Qxb6612650aDoorPrem
import Derived.Lib.SliceRun
namespace Go.Proofs.Qxb6612650aDoor.tb
open Go.ChangeShapes Go.WideShapes Go.ChangeAt Go.RowKit

/-- A row of owners, and that each owner is there. -/
structure Row (w : World) (o : Nat) (os : List (Option Nat)) : Prop where
  cell : ∀ i, i < os.length → w.cell? ⟨o, i, none⟩ = some (pv (os.getD i none))
  there : ∀ b, some b ∈ os → isCells w b

def IxPost (os : List (Option Nat)) (s : Nat) (w : World) (e : Ending) (w' : World) : Prop := (∃ i : Int, e = .returned (.int .i64 i) ∧ (0 ≤ i ∧ some s ∈ os ∨ i = -1 ∧ some s ∉ os)) ∧ w = w'
theorem mem_take_snoc (os : List (Option Nat)) (k s : Nat) (h : k < os.length) (hn : some s ∉ os.take k) (hx : ¬ os.getD k none = some s) : some s ∉ os.take (k + 1) := by
  rw [List.take_succ_eq_append_getElem h]
  simp only [List.mem_append, List.mem_singleton, not_or]
  refine ⟨hn, fun e => hx ?_⟩
  simp [List.getD_eq_getElem?_getD, h, ← e]

set_option maxHeartbeats 1000000 in
theorem z37 (o c s : Nat) (os : List (Option Nat)) (w : World) (hl : os.length ≤ 1048576) (hR : Row w o os) (hs : isCells w s) :
    Calls Tryd.prog 37 #[.slice (some ⟨o, 0, none⟩) os.length c, .pointer (some ⟨s, 0, none⟩)] w fun e w' => IxPost os s w e w' := by
  have HR : Hid (Row w o os) := hR
  have Hs : Hid (isCells w s) := hs
  clear hR hs
  generalize hn : os.length = n at *
  have Hn : Hid (os.length = n) := hn
  clear hn
  go_enter Tryd.func37, Tryd.ntmps37
  go_wp2
  go_loop [8] (fun i => ∃ k : Nat, k ≤ n ∧ i = .int .i64 k ∧ some s ∉ os.take k) (fun i => n - (intOf i).toNat)
  case atStart => exact ⟨0, Nat.zero_le _, rfl, by simp⟩
  case round =>
    obtain ⟨k, hk, rfl, hno⟩ := hrel
    have Hno : Hid (some s ∉ os.take k) := hno
    clear hno
    by_cases hlt : k < n
    · have hko : k < os.length := by rw [Hn.out]; exact hlt
      have hc := HR.out.cell k hko
      have he := eql31 w s (os.getD k none) Hs.out (fun b hb => HR.out.there b (by
        rw [← hb]; simp [List.getD_eq_getElem?_getD, hko]))
      have Hstep : Hid _ := mem_take_snoc os k s hko Hno.out
      have Hmem : Hid (os.getD k none ∈ os) := by simp [Hid, List.getD_eq_getElem?_getD, hko]
      clear hko
      generalize os.getD k none = x at hc he Hstep Hmem
      obtain ⟨p, hp⟩ : ∃ p, pv x = .pointer p := ⟨_, rfl⟩
      rw [hp] at hc he
      clear hp
      by_cases hx : x = some s
      · rw [show (x == some s) = true by simp [hx]] at he
        have Hx : Hid (x = some s) := hx
        clear hx
        go_wp2
        go_ret
        exact ⟨⟨k, rfl, .inl ⟨by omega, by rw [← Hx.out]; exact Hmem.out⟩⟩, rfl⟩
      · rw [show (x == some s) = false by simp [hx]] at he
        have Hx : Hid (¬ x = some s) := hx
        clear hx
        go_wp2
        go_round
        case rel => exact ⟨k + 1, by omega, by go_num, Hstep.out Hx.out⟩
        case measure => simp [intOf]; omega
    · have ht : os.take k = os := List.take_of_length_le (by rw [Hn.out]; omega)
      have Hno2 : Hid (some s ∉ os) := by have h := Hno.out; rw [ht] at h; exact h
      clear ht
      go_wp2
      go_ret
      exact ⟨⟨-1, rfl, .inr ⟨rfl, Hno2.out⟩⟩, rfl⟩

theorem z34 (o c s : Nat) (os : List (Option Nat)) (w : World) (hl : os.length ≤ 1048576) (hR : Row w o os) (hs : isCells w s) :
    Calls Tryd.prog 34 #[.slice (some ⟨o, 0, none⟩) os.length c, .pointer (some ⟨s, 0, none⟩)] w fun e w' => e = .returned (.bool (decide (some s ∈ os))) ∧ w = w' := by
  have HR : Hid (Row w o os) := hR
  have Hs : Hid (isCells w s) := hs
  clear hR hs
  go_enter Tryd.func34, Tryd.ntmps34
  go_wp2_with fail
  refine (z37 o c s os _ hl HR.out Hs.out).mono ?_
  rintro e w' ⟨⟨i, rfl, hi⟩, rfl⟩
  by_cases hm : some s ∈ os
  · have h0 : 0 ≤ i := by
      rcases hi with h | h
      · exact h.1
      · exact absurd hm h.2
    have Hm : Hid (decide (some s ∈ os) = true) := decide_eq_true hm
    clear hi hm
    go_wp2_with fail
    go_ret
    exact ⟨by rw [Hm.out]; simp, rfl⟩
  · have h0 : i = -1 := by
      rcases hi with h | h
      · exact absurd h.2 hm
      · exact h.1
    subst h0
    have Hm : Hid (decide (some s ∈ os) = false) := decide_eq_false hm
    clear hi hm
    go_wp2_with fail
    go_ret
    exact ⟨by rw [Hm.out]; rfl, rfl⟩

theorem z28 (g o0 o1 s n0 n1 : Nat) (os0 os1 : List (Option Nat)) (w : World) (hl0 : os0.length ≤ 1048576) (hl1 : os1.length ≤ 1048576) (h0 : Row w o0 os0) (h1 : Row w o1 os1) (hs : isCells w s)
    (g0 : w.cell? ⟨0, 0, none⟩ = some (.int .i64 0)) (g1 : w.cell? ⟨0, 1, none⟩ = some (.int .i64 1))
    (q0 : w.cell? ⟨g, 16, none⟩ = some (.slice (some ⟨o0, 0, none⟩) os0.length n0)) (q1 : w.cell? ⟨g, 17, none⟩ = some (.slice (some ⟨o1, 0, none⟩) os1.length n1)) :
    Calls Tryd.prog 28 #[.pointer (some ⟨s, 0, none⟩), .pointer (some ⟨g, 0, none⟩)] w fun e w' => e = .returned (.bool (decide (some s ∈ os0) || decide (some s ∈ os1))) ∧ w = w' := by
  have H0 : Hid (Row w o0 os0) := h0
  have H1 : Hid (Row w o1 os1) := h1
  have Hs : Hid (isCells w s) := hs
  clear h0 h1 hs
  have i0 : ∀ w, (Instr.index 87 (.agg #[.int .i64 0, .int .i64 1]) (.int .i64 0)).run Tryd.prog w = .ok (.int .i64 0) w := fun _ => by kernel_rfl
  have i1 : ∀ w, (Instr.index 87 (.agg #[.int .i64 0, .int .i64 1]) (.int .i64 1)).run Tryd.prog w = .ok (.int .i64 1) w := fun _ => by kernel_rfl
  go_enter Tryd.func28, Tryd.ntmps28
  go_wp2_with fail
  go_loop [8] (fun i => ∃ k : Nat, k ≤ 2 ∧ i = .int .i64 k ∧ (1 ≤ k → some s ∉ os0) ∧ (2 ≤ k → some s ∉ os1)) (fun i => 2 - (intOf i).toNat)
  case atStart => exact ⟨0, by omega, rfl, by omega, by omega⟩
  case round =>
    obtain ⟨k, hk, rfl, hn0, hn1⟩ := hrel
    have Hn0 : Hid (1 ≤ k → some s ∉ os0) := hn0
    have Hn1 : Hid (2 ≤ k → some s ∉ os1) := hn1
    clear hn0 hn1
    match k, hk, Hn0, Hn1 with
    | 0, _, _, _ =>
      go_wp2_with (go_at_call 34; refine (z34 o0 n0 s os0 _ hl0 H0.out Hs.out).mono ?_; rintro e w1 ⟨rfl, rfl⟩)
      · have hm : some s ∈ os0 := by assumption
        go_ret
        exact ⟨by simp [hm], rfl⟩
      · have hm : some s ∉ os0 := by assumption
        go_round
        case rel => exact ⟨1, by omega, rfl, fun _ => hm, by omega⟩
        case measure => simp [intOf]
    | 1, _, Hn0, _ =>
      go_wp2_with (go_at_call 34; refine (z34 o1 n1 s os1 _ hl1 H1.out Hs.out).mono ?_; rintro e w1 ⟨rfl, rfl⟩)
      · have hm : some s ∈ os1 := by assumption
        go_ret
        exact ⟨by simp [hm], rfl⟩
      · have hm : some s ∉ os1 := by assumption
        go_round
        case rel => exact ⟨2, by omega, rfl, fun _ => Hn0.out (by omega), fun _ => hm⟩
        case measure => simp [intOf]
    | 2, _, Hn0, Hn1 =>
      have hm0 := Hn0.out (by omega)
      have hm1 := Hn1.out (by omega)
      go_wp2
      go_ret
      exact ⟨rfl, rfl⟩

/-! ### THE CLOSURES -/

theorem z30 (x g gb : Nat) (w : World) (hc : w.cell? ⟨gb, 0, none⟩ = some (.pointer (some ⟨g, 0, none⟩))) (hx : isCells w x) (hg : isCells w g) :
    Calls Tryd.prog 30 #[.pointer (some ⟨x, 0, none⟩), .pointer (some ⟨gb, 0, none⟩)] w fun e w' => e = .returned (.bool (g == x)) ∧ w = w' := by
  have he := eql32 w x g hx hg
  clear hx hg
  generalize (g == x) = bb at he ⊢
  go_enter Tryd.func30, Tryd.ntmps30
  go_wp2
  go_ret
  exact ⟨rfl, rfl⟩

theorem z35 (sb n c g gb : Nat) (w : World) (hn : 0 < n) (hc : w.cell? ⟨gb, 0, none⟩ = some (.pointer (some ⟨g, 0, none⟩))) (h0 : w.cell? ⟨sb, 0, none⟩ = some (.pointer (some ⟨g, 0, none⟩))) (hg : isCells w g) :
    Calls Tryd.prog 35 #[.slice (some ⟨sb, 0, none⟩) n c, .func (.func 30) #[] #[.pointer (some ⟨gb, 0, none⟩)]] w fun e w' => e = .returned (.int .i64 0) ∧ w = w' := by
  have Hg : Hid (isCells w g) := hg
  clear hg
  go_enter Tryd.func35, Tryd.ntmps35
  go_wp2
  go_loop [8] (fun i => i = .int .i64 0) (fun _ => 0)
  case atStart => rfl
  case round =>
    obtain rfl := hrel
    go_wp2_with (go_at_call 30; refine (z30 g g gb _ hc Hg.out Hg.out).mono ?_; rintro e w1 ⟨rfl, rfl⟩; rw [show (g == g) = true by simp])
    go_ret
    exact ⟨rfl, rfl⟩

theorem z33 (x g gb : Nat) (w : World) (hc : w.cell? ⟨gb, 0, none⟩ = some (.pointer (some ⟨g, 0, none⟩))) (hx : isCells w x) (hg : isCells w g) :
    Calls Tryd.prog 33 #[.pointer (some ⟨x, 0, none⟩), .pointer (some ⟨gb, 0, none⟩)] w fun e w' => e = .returned (.bool (g == x)) ∧ w = w' := by
  have he := eql31' w x g hx hg
  clear hx hg
  generalize (g == x) = bb at he ⊢
  go_enter Tryd.func33, Tryd.ntmps33
  go_wp2
  go_ret
  exact ⟨rfl, rfl⟩

theorem z36 (sb n c g gb : Nat) (w : World) (hn : 0 < n) (hc : w.cell? ⟨gb, 0, none⟩ = some (.pointer (some ⟨g, 0, none⟩))) (h0 : w.cell? ⟨sb, 0, none⟩ = some (.pointer (some ⟨g, 0, none⟩))) (hg : isCells w g) :
    Calls Tryd.prog 36 #[.slice (some ⟨sb, 0, none⟩) n c, .func (.func 33) #[] #[.pointer (some ⟨gb, 0, none⟩)]] w fun e w' => e = .returned (.int .i64 0) ∧ w = w' := by
  have Hg : Hid (isCells w g) := hg
  clear hg
  go_enter Tryd.func36, Tryd.ntmps36
  go_wp2
  go_loop [8] (fun i => i = .int .i64 0) (fun _ => 0)
  case atStart => rfl
  case round =>
    obtain rfl := hrel
    go_wp2_with (go_at_call 33; refine (z33 g g gb _ hc Hg.out Hg.out).mono ?_; rintro e w1 ⟨rfl, rfl⟩; rw [show (g == g) = true by simp])
    go_ret
    exact ⟨rfl, rfl⟩

/-! ### DELETING THE FIRST -/
def ptr (b : Nat) : Value := .pointer (some ⟨b, 0, none⟩)
theorem Row1 {w : World} {base e sb n c : Nat} {ps : List Nat} (h : w.ownsRow base e 1 (.slice (some ⟨sb, 0, none⟩) n c) n (ps.map ptr)) (i : Nat) (hi : i < n) : w.cell? ⟨sb, i, none⟩ = some (.pointer (some ⟨ps.getD i 0, 0, none⟩)) := by
  have hl : ps.length = n := by simpa using h.1
  rw [h.cellAt i (by omega)]
  simp [ptr, List.getElem?_eq_getElem (by omega : i < ps.length)]
theorem ownsRow_cut {w : World} {base e sb k c : Nat} {xs : List Value} (h : w.ownsRow base e 1 (.slice (some ⟨sb, 0, none⟩) (k + 1) c) (k + 1) xs) : w.ownsRow base e 1 (.slice (some ⟨sb, 0, none⟩) k c) k (xs.take k) := by
  refine ⟨by have := h.1; simp; omega, ?_⟩
  rcases h.2 with ⟨h', _⟩ | ⟨g', cap', cur, h', hb, hg, h1, h2, h3, h4⟩
  · simp at h'
  · simp only [Value.slice.injEq, Option.some.injEq, Addr.mk.injEq, and_true, true_and] at h'
    obtain ⟨rfl, rfl⟩ := h'
    refine .inr ⟨sb, c, cur, rfl, hb, hg, by omega, h2, h3, ?_⟩
    rw [← h4, List.take_take]
    simp
/-- Behind k moves. -/
def lsK (g : Nat) (rest : List Nat) (k : Nat) : List Nat := rest.take k ++ (g :: rest).drop k
theorem lsK_length (g : Nat) (rest : List Nat) (k : Nat) (h : k ≤ rest.length) : (lsK g rest k).length = rest.length + 1 := by simp [lsK]; omega
theorem lsK_get (g : Nat) (rest : List Nat) (k : Nat) (h : k < rest.length) : (lsK g rest k).getD (k + 1) 0 = rest.getD k 0 := by
  simp only [lsK, List.getD_eq_getElem?_getD]
  rw [List.getElem?_append_right (by simp; omega)]
  simp [Nat.min_eq_left (Nat.le_of_lt h)]
theorem lsK_set (g : Nat) (rest : List Nat) (k : Nat) (h : k < rest.length) : (lsK g rest k).set k (rest.getD k 0) = lsK g rest (k + 1) := by
  unfold lsK
  rw [List.set_append_right _ _ (by simp; omega)]
  have e1 : (g :: rest).drop k = (g :: rest)[k]'(by simp; omega) :: (g :: rest).drop (k + 1) := (List.drop_eq_getElem_cons (by simp; omega))
  rw [e1]
  have e2 : rest.take (k + 1) = rest.take k ++ [rest[k]] := List.take_succ_eq_append_getElem h
  simp [Nat.min_eq_left (Nat.le_of_lt h), List.getD_eq_getElem?_getD, h]
  rw [e2, List.append_assoc]
  rfl
theorem lsK_full (g : Nat) (rest : List Nat) : (lsK g rest rest.length).take rest.length = rest := by simp [lsK]

set_option maxRecDepth 100000 in
set_option maxHeartbeats 1000000 in
theorem z29 (base sb c g gb : Nat) (rest : List Nat) (w : World) (hl : rest.length ≤ 1048576) (hown : w.ownsRow base 32 1 (.slice (some ⟨sb, 0, none⟩) (rest.length + 1) c) (rest.length + 1) ((g :: rest).map ptr))
    (hc : w.cell? ⟨gb, 0, none⟩ = some (.pointer (some ⟨g, 0, none⟩))) (hgb : gb ≠ sb) (hne : ∀ x ∈ rest, x ≠ g) (hth : ∀ x ∈ g :: rest, isCells w x) :
    Calls Tryd.prog 29 #[.slice (some ⟨sb, 0, none⟩) (rest.length + 1) c, .func (.func 30) #[] #[.pointer (some ⟨gb, 0, none⟩)]] w fun e w' => e = .returned (.slice (some ⟨sb, 0, none⟩) rest.length c) ∧
      w'.ownsRow base 32 1 (.slice (some ⟨sb, 0, none⟩) rest.length c) rest.length (rest.map ptr) ∧ w.grownBy w' (some sb) := by
  have Hth : Hid (∀ x ∈ g :: rest, isCells w x) := hth
  have Hne : Hid (∀ x ∈ rest, x ≠ g) := hne
  have Hgb : Hid (gb ≠ sb) := hgb
  have hc0 := Row1 hown 0 (by omega)
  simp only [List.getD_cons_zero] at hc0
  have Hset : Hid _ := lsK_set g rest
  have H0 : Hid (lsK g rest 0 = g :: rest) := by simp [Hid, lsK]
  have Hg1 : Hid _ := lsK_get g rest
  have HF : Hid _ := lsK_full g rest
  clear hth hne hgb
  have Hown : Hid _ := hown
  clear hown
  generalize hm : rest.length = m at *
  have Hm : Hid (rest.length = m) := hm
  clear hm
  go_enter Tryd.func29, Tryd.ntmps29
  go_wp2_with (go_at_call 35; refine (z35 sb (m + 1) c g gb _ (by omega) hc hc0 (Hth.out g (by simp))).mono ?_; rintro e w1 ⟨rfl, rfl⟩)
  go_loopw [5, 6] (fun i j wr => ∃ k : Nat, k ≤ m ∧ i = .int .i64 k ∧ j = .int .i64 ((k : Int) + 1) ∧ wr.ownsRow base 32 1 (.slice (some ⟨sb, 0, none⟩) (m + 1) c) (m + 1) ((lsK g rest k).map ptr) ∧ w.grownBy wr (some sb)) (fun i _ _ => m - (intOf i).toNat)
  case atStart => exact ⟨0, by omega, rfl, rfl, by rw [H0.out]; exact Hown.out, World.grownBy.refl _ _⟩
  case round =>
    obtain ⟨k, hk, rfl, rfl, hownr, hgr⟩ := hrel
    clear hc0
    have hcr : wr.cell? ⟨gb, 0, none⟩ = some (.pointer (some ⟨g, 0, none⟩)) := hgr.cell hc (by have := Hgb.out; simp; exact this)
    by_cases hlt : k < m
    · have hkr : k < rest.length := by rw [Hm.out]; exact hlt
      have hcx := Row1 hownr (k + 1) (by omega)
      rw [Hg1.out k hlt] at hcx
      have HX := Hset.out k hlt
      have hmem : rest.getD k 0 ∈ rest := by simp [List.getD_eq_getElem?_getD, hkr]
      have HX2 : Hid (rest.getD k 0 ≠ g ∧ isCells wr (rest.getD k 0) ∧ isCells wr g) := by
        have keep : ∀ x, isCells w x → x ∈ g :: rest → isCells wr x := fun x hx hm => ?keep
        case keep =>
          obtain ⟨ca, ta, hxa⟩ := hx
          by_cases e : x = sb
          · subst e
            rcases hownr.2 with ⟨h, _⟩ | ⟨g', cap', cur, h, _, hgg, _⟩
            · simp at h
            · simp only [Value.slice.injEq, Option.some.injEq, Addr.mk.injEq, and_true, true_and] at h
              obtain ⟨rfl, rfl⟩ := h
              exact ⟨_, _, hgg⟩
          · exact ⟨ca, ta, by rw [hgr.block x (Array.getElem?_eq_some_iff.1 hxa).1 (by simpa using e)]; exact hxa⟩
        exact ⟨Hne.out _ hmem, keep _ (Hth.out _ (List.mem_cons_of_mem _ hmem)) (List.mem_cons_of_mem _ hmem), keep _ (Hth.out g (by simp)) (by simp)⟩
      clear hkr hmem
      generalize rest.getD k 0 = x at hcx HX HX2
      have hst := hownr.stored k (ptr x)
      rw [← List.map_set, HX] at hst
      have Hst : Hid _ := hst
      have hgr2 : w.grownBy (wr.setCell ⟨sb, k, none⟩ (ptr x)) (some sb) := ⟨hgr.os, hgr.tape, hgr.output, by simpa [World.setCell] using hgr.size, fun q hq hne => (hst.2.block q (Nat.lt_of_lt_of_le hq hgr.size) hne).trans (hgr.block q hq hne)⟩
      have Hgr2 : Hid _ := hgr2
      have hcy := Row1 hownr k (by omega)
      have hft := hownr.frozenAt k
      clear hst hgr2 HX
      go_wp2_with (go_at_call 30; refine (z30 x g gb _ hcr HX2.out.2.1 HX2.out.2.2).mono ?_; rintro e w1 ⟨rfl, rfl⟩; rw [show (g == x) = false by have := HX2.out.1; simp; exact Ne.symm this])
      go_roundw
      case rel => exact ⟨k + 1, by omega, by go_num, by go_num, Hst.out.1, Hgr2.out⟩
      case measure => simp [intOf]; omega
    · have hke : k = m := by omega
      subst hke
      have hcy := Row1 hownr k (by omega)
      have hft := hownr.frozenAt k
      have zero : ∀ w : World, (zeroValue 32).run Tryd.prog w = .ok (.pointer none) w := fun _ => by kernel_rfl
      have hcl : ∀ ty c', (Builtin.clear_ #[40] ty #[.slice (some ⟨sb, k, none⟩) 1 c']).run Tryd.prog wr = .ok (.tuple #[]) (wr.setCell ⟨sb, k, none⟩ (.pointer none)) := fun ty c' =>
        Lib.run_clear_slice wr 40 32 ty (.pointer none) Tryd.underlying40 zero rfl rfl sb k 1 c' (by omega) (fun j hj => by rw [show k + j = k by omega, hcy]; rfl) (fun j hj => by rw [show k + j = k by omega]; exact hft)
      obtain ⟨hkc, hcm⟩ : k + 1 ≤ c ∧ c ≤ maxLen := by
        rcases hownr.2 with ⟨h, _⟩ | ⟨g', cap', cur, h, _, _, h1, h2, _⟩
        · simp at h
        · simp only [Value.slice.injEq, Option.some.injEq, Addr.mk.injEq, and_true, true_and] at h
          obtain ⟨rfl, rfl⟩ := h
          exact ⟨h1, h2⟩
      unfold maxLen at hcm
      have Hst : Hid _ := hownr.stored k (.pointer none)
      have Hgr : Hid _ := hgr
      clear zero hcy hft
      go_wp2_with (simp only [hcl])
      go_ret
      refine ⟨rfl, ?_, ?_⟩
      · have h1 := ownsRow_cut Hst.out.1
        have e1 : (((lsK g rest k).map ptr).set k (.pointer none)).take k = rest.map ptr := by
          rw [List.take_set_of_le (Nat.le_refl _), ← List.map_take, HF.out]
        rw [e1] at h1
        exact h1
      · exact ⟨Hgr.out.os, Hgr.out.tape, Hgr.out.output, by simpa [World.setCell] using Hgr.out.size, fun q hq hne => (Hst.out.2.block q (Nat.lt_of_lt_of_le hq Hgr.out.size) hne).trans (Hgr.out.block q hq hne)⟩

set_option maxRecDepth 100000 in
set_option maxHeartbeats 1000000 in
theorem z32 (base sb c g gb : Nat) (rest : List Nat) (w : World) (hl : rest.length ≤ 1048576) (hown : w.ownsRow base 31 1 (.slice (some ⟨sb, 0, none⟩) (rest.length + 1) c) (rest.length + 1) ((g :: rest).map ptr))
    (hc : w.cell? ⟨gb, 0, none⟩ = some (.pointer (some ⟨g, 0, none⟩))) (hgb : gb ≠ sb) (hne : ∀ x ∈ rest, x ≠ g) (hth : ∀ x ∈ g :: rest, isCells w x) :
    Calls Tryd.prog 32 #[.slice (some ⟨sb, 0, none⟩) (rest.length + 1) c, .func (.func 33) #[] #[.pointer (some ⟨gb, 0, none⟩)]] w fun e w' => e = .returned (.slice (some ⟨sb, 0, none⟩) rest.length c) ∧
      w'.ownsRow base 31 1 (.slice (some ⟨sb, 0, none⟩) rest.length c) rest.length (rest.map ptr) ∧ w.grownBy w' (some sb) := by
  have Hth : Hid (∀ x ∈ g :: rest, isCells w x) := hth
  have Hne : Hid (∀ x ∈ rest, x ≠ g) := hne
  have Hgb : Hid (gb ≠ sb) := hgb
  have hc0 := Row1 hown 0 (by omega)
  simp only [List.getD_cons_zero] at hc0
  have Hset : Hid _ := lsK_set g rest
  have H0 : Hid (lsK g rest 0 = g :: rest) := by simp [Hid, lsK]
  have Hg1 : Hid _ := lsK_get g rest
  have HF : Hid _ := lsK_full g rest
  clear hth hne hgb
  have Hown : Hid _ := hown
  clear hown
  generalize hm : rest.length = m at *
  have Hm : Hid (rest.length = m) := hm
  clear hm
  go_enter Tryd.func32, Tryd.ntmps32
  go_wp2_with (go_at_call 36; refine (z36 sb (m + 1) c g gb _ (by omega) hc hc0 (Hth.out g (by simp))).mono ?_; rintro e w1 ⟨rfl, rfl⟩)
  go_loopw [5, 6] (fun i j wr => ∃ k : Nat, k ≤ m ∧ i = .int .i64 k ∧ j = .int .i64 ((k : Int) + 1) ∧ wr.ownsRow base 31 1 (.slice (some ⟨sb, 0, none⟩) (m + 1) c) (m + 1) ((lsK g rest k).map ptr) ∧ w.grownBy wr (some sb)) (fun i _ _ => m - (intOf i).toNat)
  case atStart => exact ⟨0, by omega, rfl, rfl, by rw [H0.out]; exact Hown.out, World.grownBy.refl _ _⟩
  case round =>
    obtain ⟨k, hk, rfl, rfl, hownr, hgr⟩ := hrel
    clear hc0
    have hcr : wr.cell? ⟨gb, 0, none⟩ = some (.pointer (some ⟨g, 0, none⟩)) := hgr.cell hc (by have := Hgb.out; simp; exact this)
    by_cases hlt : k < m
    · have hkr : k < rest.length := by rw [Hm.out]; exact hlt
      have hcx := Row1 hownr (k + 1) (by omega)
      rw [Hg1.out k hlt] at hcx
      have HX := Hset.out k hlt
      have hmem : rest.getD k 0 ∈ rest := by simp [List.getD_eq_getElem?_getD, hkr]
      have HX2 : Hid (rest.getD k 0 ≠ g ∧ isCells wr (rest.getD k 0) ∧ isCells wr g) := by
        have keep : ∀ x, isCells w x → x ∈ g :: rest → isCells wr x := fun x hx hm => ?keep
        case keep =>
          obtain ⟨ca, ta, hxa⟩ := hx
          by_cases e : x = sb
          · subst e
            rcases hownr.2 with ⟨h, _⟩ | ⟨g', cap', cur, h, _, hgg, _⟩
            · simp at h
            · simp only [Value.slice.injEq, Option.some.injEq, Addr.mk.injEq, and_true, true_and] at h
              obtain ⟨rfl, rfl⟩ := h
              exact ⟨_, _, hgg⟩
          · exact ⟨ca, ta, by rw [hgr.block x (Array.getElem?_eq_some_iff.1 hxa).1 (by simpa using e)]; exact hxa⟩
        exact ⟨Hne.out _ hmem, keep _ (Hth.out _ (List.mem_cons_of_mem _ hmem)) (List.mem_cons_of_mem _ hmem), keep _ (Hth.out g (by simp)) (by simp)⟩
      clear hkr hmem
      generalize rest.getD k 0 = x at hcx HX HX2
      have hst := hownr.stored k (ptr x)
      rw [← List.map_set, HX] at hst
      have Hst : Hid _ := hst
      have hgr2 : w.grownBy (wr.setCell ⟨sb, k, none⟩ (ptr x)) (some sb) := ⟨hgr.os, hgr.tape, hgr.output, by simpa [World.setCell] using hgr.size, fun q hq hne => (hst.2.block q (Nat.lt_of_lt_of_le hq hgr.size) hne).trans (hgr.block q hq hne)⟩
      have Hgr2 : Hid _ := hgr2
      have hcy := Row1 hownr k (by omega)
      have hft := hownr.frozenAt k
      clear hst hgr2 HX
      go_wp2_with (go_at_call 33; refine (z33 x g gb _ hcr HX2.out.2.1 HX2.out.2.2).mono ?_; rintro e w1 ⟨rfl, rfl⟩; rw [show (g == x) = false by have := HX2.out.1; simp; exact Ne.symm this])
      go_roundw
      case rel => exact ⟨k + 1, by omega, by go_num, by go_num, Hst.out.1, Hgr2.out⟩
      case measure => simp [intOf]; omega
    · have hke : k = m := by omega
      subst hke
      have hcy := Row1 hownr k (by omega)
      have hft := hownr.frozenAt k
      have zero : ∀ w : World, (zeroValue 31).run Tryd.prog w = .ok (.pointer none) w := fun _ => by kernel_rfl
      have hcl : ∀ ty c', (Builtin.clear_ #[44] ty #[.slice (some ⟨sb, k, none⟩) 1 c']).run Tryd.prog wr = .ok (.tuple #[]) (wr.setCell ⟨sb, k, none⟩ (.pointer none)) := fun ty c' =>
        Lib.run_clear_slice wr 44 31 ty (.pointer none) Tryd.underlying44 zero rfl rfl sb k 1 c' (by omega) (fun j hj => by rw [show k + j = k by omega, hcy]; rfl) (fun j hj => by rw [show k + j = k by omega]; exact hft)
      obtain ⟨hkc, hcm⟩ : k + 1 ≤ c ∧ c ≤ maxLen := by
        rcases hownr.2 with ⟨h, _⟩ | ⟨g', cap', cur, h, _, _, h1, h2, _⟩
        · simp at h
        · simp only [Value.slice.injEq, Option.some.injEq, Addr.mk.injEq, and_true, true_and] at h
          obtain ⟨rfl, rfl⟩ := h
          exact ⟨h1, h2⟩
      unfold maxLen at hcm
      have Hst : Hid _ := hownr.stored k (.pointer none)
      have Hgr : Hid _ := hgr
      clear zero hcy hft
      go_wp2_with (simp only [hcl])
      go_ret
      refine ⟨rfl, ?_, ?_⟩
      · have h1 := ownsRow_cut Hst.out.1
        have e1 : (((lsK g rest k).map ptr).set k (.pointer none)).take k = rest.map ptr := by
          rw [List.take_set_of_le (Nat.le_refl _), ← List.map_take, HF.out]
        rw [e1] at h1
        exact h1
      · exact ⟨Hgr.out.os, Hgr.out.tape, Hgr.out.output, by simpa [World.setCell] using Hgr.out.size, fun q hq hne => (Hst.out.2.block q (Nat.lt_of_lt_of_le hq Hgr.out.size) hne).trans (Hgr.out.block q hq hne)⟩

end Go.Proofs.Qxb6612650aDoor.tb
