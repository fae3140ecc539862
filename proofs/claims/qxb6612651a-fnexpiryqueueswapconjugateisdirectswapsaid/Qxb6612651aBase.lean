import Derived.Test.Qxb6612651aRows
import Derived.WalkKit
import Derived.ProofKit
import Derived.OpenShut
import Derived.ShutString
import Derived.ChangeOld
import Derived.Below
import Derived.RegionTactic
import Derived.ChangeAlike
import Derived.Deep.QuietTactic
import Derived.BigQuiet
import Derived.OwnWalk
import Derived.WalkSpells
import Derived.WalkLawsBesides
namespace Go.Proofs.Qxb6612651a.eq
set_option linter.unusedSimpArgs false
open Go.ChangeShapes Go.WideShapes Go.ChangeAt Go.RowKit

/-! ### THE PLAIN PART -/
def sw {α : Type} (d : α) (l : List α) (i j : Nat) : List α := (l.set i (l.getD j d)).set j (l.getD i d)
theorem sw_length {α : Type} (d : α) (l : List α) (i j : Nat) : (sw d l i j).length = l.length := by simp [sw]
theorem sw_getD {α : Type} (d : α) (l : List α) (i j m : Nat) (hi : i < l.length) (hj : j < l.length) :
    (sw d l i j).getD m d = if m = j then l.getD i d else if m = i then l.getD j d else l.getD m d := by
  by_cases hm : m < l.length
  · simp only [sw, List.getD_eq_getElem?_getD, List.getElem?_set, List.length_set]
    by_cases h1 : m = j
    · subst h1; simp [hm]
    · by_cases h2 : m = i
      · subst h2; simp [hm, h1, Ne.symm h1]
      · simp [h1, h2, Ne.symm h1, Ne.symm h2]
  · rw [if_neg (by omega), if_neg (by omega)]
    simp only [List.getD_eq_getElem?_getD]
    rw [List.getElem?_eq_none (by rw [sw_length]; omega), List.getElem?_eq_none (by omega)]
theorem ext_getD {α : Type} (d : α) {l m : List α} (hl : l.length = m.length) (h : ∀ i, i < l.length → l.getD i d = m.getD i d) : l = m := by
  apply List.ext_getElem hl
  intro i h1 h2
  have := h i h1
  simpa [List.getD_eq_getElem?_getD, h1, h2] using this
/-- Three swaps through j are one. -/
theorem sw_conj {α : Type} (d : α) (l : List α) (i j k : Nat) (hi : i < l.length) (hj : j < l.length) (hk : k < l.length) (h1 : i ≠ j) (h2 : j ≠ k) (h3 : i ≠ k) : sw d (sw d (sw d l i j) j k) i j = sw d l i k := by
  apply ext_getD d (by simp [sw_length])
  intro m _
  have e1 := fun m => sw_getD d l i j m hi hj
  have e2 := fun m => sw_getD d (sw d l i j) j k m (by rw [sw_length]; exact hj) (by rw [sw_length]; exact hk)
  have e3 := fun m => sw_getD d (sw d (sw d l i j) j k) i j m (by rw [sw_length, sw_length]; exact hi) (by rw [sw_length, sw_length]; exact hj)
  rw [e3, sw_getD d l i k m hi hk]
  simp only [e2, e1]
  by_cases a1 : m = i
  · subst a1; simp [h1, h2, h3, Ne.symm h1, Ne.symm h2, Ne.symm h3]
  · by_cases a2 : m = j
    · subst a2; simp [a1, h1, h2, h3, Ne.symm h1, Ne.symm h2, Ne.symm h3]
    · by_cases a3 : m = k
      · subst a3; simp [a1, a2, h1, h2, h3, Ne.symm h1, Ne.symm h2, Ne.symm h3]
      · simp [a1, a2, a3]
/-- No two places hold one block. -/
def Inj (l : List Nat) : Prop := ∀ i j, i < l.length → j < l.length → l.getD i 0 = l.getD j 0 → i = j
theorem sw_getD' {α : Type} (d : α) (l : List α) (i j m : Nat) (hi : i < l.length) (hj : j < l.length) : (sw d l i j).getD m d = l.getD (if m = j then i else if m = i then j else m) d := by
  rw [sw_getD d l i j m hi hj]
  split
  · rfl
  · split <;> rfl
theorem Inj.sw {l : List Nat} (h : Inj l) (a b : Nat) (ha : a < l.length) (hb : b < l.length) : Inj (sw 0 l a b) := by
  intro i j hi hj e
  rw [sw_length] at hi hj
  rw [sw_getD' 0 l a b i ha hb, sw_getD' 0 l a b j ha hb] at e
  have := h _ _ (by split <;> (try split) <;> omega) (by split <;> (try split) <;> omega) e
  revert this
  split <;> (try split) <;> (try split) <;> (try split) <;> omega
theorem mem_getD {l : List Nat} {x : Nat} (h : x ∈ l) : ∃ i, i < l.length ∧ l.getD i 0 = x := by
  obtain ⟨i, hi, e⟩ := List.mem_iff_getElem.1 h
  exact ⟨i, hi, by simpa [List.getD_eq_getElem?_getD, hi] using e⟩

/-! ### THE CALLEES -/
def expObj (t i : Int) : Obj := .cells #[.string { data := #[] }, .int .i64 t, .int .u64 0, .int .i64 0, .pointer none, .int .i64 i] 39
def ptr (b : Nat) : Value := .pointer (some ⟨b, 0, none⟩)
theorem z11 (t i : Int) (w : World) : Calls Try.prog 11 #[.int .i64 t, .int .i64 i] w fun e w' => e = .returned (.pointer (some ⟨w.heap.size, 0, none⟩)) ∧ w' = w.alloc (expObj t i) := by
  go_enter Try.func11, Try.ntmps11
  go_wp2
  go_ret
  exact ⟨rfl, rfl⟩
theorem z8 (g n c k p : Nat) (t : Int) (w : World) (hk : k < n) (h : w.cell? ⟨g, k, none⟩ = some (.pointer (some ⟨p, 0, none⟩))) (h2 : w.cell? ⟨p, 1, none⟩ = some (.int .i64 t)) : Calls Try.prog 8 #[.slice (some ⟨g, 0, none⟩) n c, .int .i64 k] w fun e w' => e = .returned (.int .i64 t) ∧ w' = w := by
  go_enter Try.func8, Try.ntmps8
  go_wp2
  go_ret
  exact ⟨rfl, rfl⟩
theorem z9 (g n c k p : Nat) (t : Int) (w : World) (hk : k < n) (h : w.cell? ⟨g, k, none⟩ = some (.pointer (some ⟨p, 0, none⟩))) (h2 : w.cell? ⟨p, 5, none⟩ = some (.int .i64 t)) : Calls Try.prog 9 #[.slice (some ⟨g, 0, none⟩) n c, .int .i64 k] w fun e w' => e = .returned (.int .i64 t) ∧ w' = w := by
  go_enter Try.func9, Try.ntmps9
  go_wp2
  go_ret
  exact ⟨rfl, rfl⟩

/-- The exchange of two pointers: whatever the places. -/
theorem two_cells {w : World} {g i j : Nat} {u v : Value} (ci : w.cell? ⟨g, i, none⟩ = some u) (cj : w.cell? ⟨g, j, none⟩ = some v) :
    ((w.setCell ⟨g, i, none⟩ v).setCell ⟨g, j, none⟩ u).cell? ⟨g, i, none⟩ = some v ∧ ((w.setCell ⟨g, i, none⟩ v).setCell ⟨g, j, none⟩ u).cell? ⟨g, j, none⟩ = some u := by
  have h1 : (w.setCell ⟨g, i, none⟩ v).cell? ⟨g, i, none⟩ = some v := World.cell?_setCell_same w _ v ci
  obtain ⟨x, hx⟩ := cell?_setCell_some (w := w) (p := ⟨g, i, none⟩) (x := v) (q := ⟨g, j, none⟩) (v := v) cj
  refine ⟨?_, World.cell?_setCell_same _ _ u hx⟩
  by_cases e : i = j
  · subst e
    have : u = v := Option.some.inj (ci.symm.trans cj)
    subst this
    exact World.cell?_setCell_same _ _ u hx
  · rw [World.cell?_setCell_other _ _ _ _ (by intro h; cases h; exact e rfl)]
    exact h1
set_option maxHeartbeats 1000000 in
theorem swap (g n cap i j p q : Nat) (xp xq : Int) (w : World) (hi : (i : Int) < (n : Int)) (hj : (j : Int) < (n : Int)) (hpg : p ≠ g) (hqg : q ≠ g)
    (ci : w.cell? ⟨g, i, none⟩ = some (.pointer (some ⟨p, 0, none⟩))) (cj : w.cell? ⟨g, j, none⟩ = some (.pointer (some ⟨q, 0, none⟩))) (fi : w.frozen? ⟨g, i, none⟩ = false) (fj : w.frozen? ⟨g, j, none⟩ = false)
    (cp : w.cell? ⟨p, 5, none⟩ = some (.int .i64 xp)) (cq : w.cell? ⟨q, 5, none⟩ = some (.int .i64 xq)) (fp : w.frozen? ⟨p, 5, none⟩ = false) (fq : w.frozen? ⟨q, 5, none⟩ = false) :
    Calls Try.prog 7 #[.slice (some ⟨g, 0, none⟩) n cap, .int .i64 i, .int .i64 j] w fun e w' => e = .returned (.tuple #[]) ∧ Hid (w' = (((((w.setCell ⟨g, i, none⟩ (ptr q)).setCell ⟨g, j, none⟩ (ptr p)).drew).setCell ⟨q, 5, none⟩ (.int .i64 i)).setCell ⟨p, 5, none⟩ (.int .i64 j)).drew) := by
  obtain ⟨v', hy'⟩ := cell?_setCell_some (w := w) (p := ⟨g, i, none⟩) (x := .pointer (some ⟨q, 0, none⟩)) (q := ⟨g, j, none⟩) (v := .pointer (some ⟨q, 0, none⟩)) cj
  have HC : Hid _ := two_cells ci cj
  have o1 : ∀ (a b : Nat) (c : Nat) (v : Value), a ≠ g → ((w.setCell ⟨g, i, none⟩ (ptr q)).setCell ⟨g, j, none⟩ (ptr p)).cell? ⟨a, b, none⟩ = w.cell? ⟨a, b, none⟩ := fun a b c v h => by
    rw [World.cell?_setCell_other _ _ _ _ (by intro e; cases e; exact h rfl), World.cell?_setCell_other _ _ _ _ (by intro e; cases e; exact h rfl)]
  have Hcp : Hid (((w.setCell ⟨g, i, none⟩ (ptr q)).setCell ⟨g, j, none⟩ (ptr p)).cell? ⟨p, 5, none⟩ = some (.int .i64 xp)) := (o1 p 5 0 (ptr 0) hpg).trans cp
  have Hcq : Hid (((w.setCell ⟨g, i, none⟩ (ptr q)).setCell ⟨g, j, none⟩ (ptr p)).cell? ⟨q, 5, none⟩ = some (.int .i64 xq)) := (o1 q 5 0 (ptr 0) hqg).trans cq
  have Hfp : Hid (((w.setCell ⟨g, i, none⟩ (ptr q)).setCell ⟨g, j, none⟩ (ptr p)).frozen? ⟨p, 5, none⟩ = false) := by
    rw [Hid, World.frozen?_of_block (Below.heap_setCell _ _ _ _ hpg), World.frozen?_of_block (Below.heap_setCell _ _ _ _ hpg)]; exact fp
  have Hfq : Hid (((w.setCell ⟨g, i, none⟩ (ptr q)).setCell ⟨g, j, none⟩ (ptr p)).frozen? ⟨q, 5, none⟩ = false) := by
    rw [Hid, World.frozen?_of_block (Below.heap_setCell _ _ _ _ hqg), World.frozen?_of_block (Below.heap_setCell _ _ _ _ hqg)]; exact fq
  clear o1 cp cq fp fq
  have HW : Hid (∀ W, W = ((w.setCell ⟨g, i, none⟩ (ptr q)).setCell ⟨g, j, none⟩ (ptr p)).drew → W.cell? ⟨g, i, none⟩ = some (.pointer (some ⟨q, 0, none⟩)) ∧ W.cell? ⟨g, j, none⟩ = some (.pointer (some ⟨p, 0, none⟩)) ∧ W.cell? ⟨p, 5, none⟩ = some (.int .i64 xp) ∧ W.cell? ⟨q, 5, none⟩ = some (.int .i64 xq) ∧ W.frozen? ⟨p, 5, none⟩ = false ∧ W.frozen? ⟨q, 5, none⟩ = false) := by
    intro W hW
    subst hW
    exact ⟨HC.out.1, HC.out.2, Hcp.out, Hcq.out, Hfp.out, Hfq.out⟩
  clear HC Hcp Hcq Hfp Hfq
  go_enter Try.func7, Try.ntmps7
  go_wp2
  go_region
  have hW := HW.out _ rfl
  simp only [ptr] at hW
  have HQ : Hid (((w.setCell ⟨g, i, none⟩ (.pointer (some ⟨q, 0, none⟩))).setCell ⟨g, j, none⟩ (.pointer (some ⟨p, 0, none⟩))).drew = ((w.setCell ⟨g, i, none⟩ (ptr q)).setCell ⟨g, j, none⟩ (ptr p)).drew) := rfl
  generalize ((w.setCell ⟨g, i, none⟩ (.pointer (some ⟨q, 0, none⟩))).setCell ⟨g, j, none⟩ (.pointer (some ⟨p, 0, none⟩))).drew = W at hW HQ ⊢
  obtain ⟨b1, b2, b3, b4, b5, b6⟩ := hW
  clear HW ci cj fi fj hy'
  obtain ⟨v2, hy2⟩ := cell?_setCell_some (w := W) (p := ⟨q, 5, none⟩) (x := .int .i64 i) (q := ⟨p, 5, none⟩) (v := .int .i64 xp) b3
  go_wp2
  go_region
  all_goals (go_end0; exact ⟨rfl, by rw [← HQ.out]; rfl⟩)

/-! ### THE QUEUE -/
theorem Row1 {w : World} {base e sb n c : Nat} {ps : List Nat} (h : w.ownsRow base e 1 (.slice (some ⟨sb, 0, none⟩) n c) n (ps.map ptr)) (i : Nat) (hi : i < n) : w.cell? ⟨sb, i, none⟩ = some (.pointer (some ⟨ps.getD i 0, 0, none⟩)) := by
  have hl : ps.length = n := by simpa using h.1
  rw [h.cellAt i (by omega)]
  simp [ptr, List.getElem?_eq_getElem (by omega : i < ps.length)]
theorem exp_cell {w : World} {b : Nat} {t i : Int} (h : w.heap[b]? = some (expObj t i)) : w.cell? ⟨b, 1, none⟩ = some (.int .i64 t) ∧ w.cell? ⟨b, 5, none⟩ = some (.int .i64 i) := by
  simp [World.cell?, h, expObj]
theorem exp_frozen {w : World} {b : Nat} {t i : Int} (h : w.heap[b]? = some (expObj t i)) (o : Nat) : w.frozen? ⟨b, o, none⟩ = false := frozen_of_row w b o _ _ h
theorem exp_set {w : World} {b : Nat} {t i : Int} (h : w.heap[b]? = some (expObj t i)) (x : Int) : (w.setCell ⟨b, 5, none⟩ (.int .i64 x)).heap[b]? = some (expObj t x) := heap_setCell_same w b 5 _ _ _ h
/-- A queue whose places know where they stand: its row of pointers, its places' tokens. -/
structure Qu (w : World) (B g n c : Nat) (ps : List Nat) (ts : List Int) : Prop where
  own : w.ownsRow B 32 1 (.slice (some ⟨g, 0, none⟩) n c) n (ps.map ptr)
  ent : ∀ k, k < n → w.heap[ps.getD k 0]? = some (expObj (ts.getD k 0) k)
  inj : Inj ps
  lt : ts.length = n
  lo : ∀ k, k < n → B ≤ ps.getD k 0
theorem Qu.len {w : World} {B g n c : Nat} {ps : List Nat} {ts : List Int} (q : Qu w B g n c ps ts) : ps.length = n := by simpa using q.own.1
theorem own_obj {w : World} {b base e n c : Nat} {xs : List Value} (ho : w.ownsRow base e 1 (.slice (some ⟨b, 0, none⟩) n c) n xs) : base ≤ b ∧ ∃ cur, w.heap[b]? = some (.cells cur e (0, 0)) := by
  rcases ho.2 with ⟨h, _⟩ | ⟨g, cap, cur, hv, hb, hgg, rest⟩
  · simp at h
  · simp only [Value.slice.injEq, Option.some.injEq, Addr.mk.injEq, and_true, true_and] at hv
    obtain ⟨rfl, rfl⟩ := hv
    exact ⟨hb, _, hgg⟩
theorem Qu.ne {w : World} {B g n c : Nat} {ps : List Nat} {ts : List Int} (q : Qu w B g n c ps ts) (k : Nat) (hk : k < n) : ps.getD k 0 ≠ g := by
  intro e
  obtain ⟨_, cur, h⟩ := own_obj q.own
  have := q.ent k hk
  rw [e, h] at this
  simp [expObj] at this
/-- Only the queue's own blocks have turned. -/
structure Ch (g : Nat) (ps : List Nat) (w w' : World) : Prop where
  os : w'.os = w.os
  tape : w'.tape = w.tape
  output : w'.output = w.output
  size : w'.heap.size = w.heap.size
  block : ∀ k, k ≠ g → k ∉ ps → w'.heap[k]? = w.heap[k]?
theorem Ch.below {g B B' n c : Nat} {ps : List Nat} {ts : List Int} {w w0 w' : World} (h : Ch g ps w w') (q : Qu w B g n c ps ts) (b : Below B' w0 w) (hB : B' ≤ B) : Below B' w0 w' :=
  b.trans ⟨h.os, h.tape, h.output, by rw [h.size]; exact Nat.le_refl _, fun k hk => h.block k (by have := (own_obj q.own).1; omega) (fun hm => by
    obtain ⟨i, hi, e⟩ := mem_getD hm
    have := q.lo i (by rw [← q.len]; exact hi)
    omega)⟩
theorem sc (w : World) (b o : Nat) (v : Value) (k : Nat) (h : k ≠ b) : (w.setCell ⟨b, o, none⟩ v).heap[k]? = w.heap[k]? := Below.heap_setCell w ⟨b, o, none⟩ v k h
theorem scs (w : World) (a : Addr) (v : Value) : (w.setCell a v).os = w.os ∧ (w.setCell a v).tape = w.tape ∧ (w.setCell a v).output = w.output ∧ (w.setCell a v).heap.size = w.heap.size := ⟨rfl, rfl, rfl, by simp [World.setCell]⟩

theorem swap_q {B g n c : Nat} {ps : List Nat} {ts : List Int} {w : World} (h : Qu w B g n c ps ts) (I J : Int) (i j : Nat) (hI : I = i) (hJ : J = j) (hi : i < n) (hj : j < n) :
    Calls Try.prog 7 #[.slice (some ⟨g, 0, none⟩) n c, .int .i64 I, .int .i64 J] w fun e w' => e = .returned (.tuple #[]) ∧ Hid (Qu w' B g n c (sw 0 ps i j) (sw 0 ts i j) ∧ Ch g ps w w') := by
  subst hI hJ
  have hl := h.len
  have ei := h.ent i hi
  have ej := h.ent j hj
  refine (swap g n c i j (ps.getD i 0) (ps.getD j 0) i j w (by omega) (by omega) (h.ne i hi) (h.ne j hj) (Row1 h.own i hi) (Row1 h.own j hj) (h.own.frozenAt i) (h.own.frozenAt j) (exp_cell ei).2 (exp_cell ej).2 (exp_frozen ei 5) (exp_frozen ej 5)).mono ?_
  rintro e w' ⟨rfl, hw⟩
  have hw' := hw.out
  have hp := h.ne i hi
  have hq := h.ne j hj
  have mi : ps.getD i 0 ∈ ps := by simp [List.getD_eq_getElem?_getD, show i < ps.length by omega]
  have mj : ps.getD j 0 ∈ ps := by simp [List.getD_eq_getElem?_getD, show j < ps.length by omega]
  generalize hpe : ps.getD i 0 = p at *
  generalize hqe : ps.getD j 0 = q at *
  have s1 := h.own.stored i (ptr q)
  have s2 := s1.1.stored j (ptr p)
  -- the three worlds
  have hk1 : ∀ k, k ≠ g → ((w.setCell ⟨g, i, none⟩ (ptr q)).setCell ⟨g, j, none⟩ (ptr p)).heap[k]? = w.heap[k]? := fun k hk => by rw [sc _ _ _ _ _ hk, sc _ _ _ _ _ hk]
  have hkA : ∀ k, k ≠ g → k ≠ p → k ≠ q → w'.heap[k]? = w.heap[k]? := fun k h1 h2 h3 => by
    rw [hw']
    show (((((w.setCell ⟨g, i, none⟩ (ptr q)).setCell ⟨g, j, none⟩ (ptr p)).drew).setCell ⟨q, 5, none⟩ (.int .i64 i)).setCell ⟨p, 5, none⟩ (.int .i64 j)).heap[k]? = _
    rw [sc _ _ _ _ _ h2, sc _ _ _ _ _ h3]
    exact hk1 k h1
  have hpp : p = q → i = j := fun e => h.inj i j (by omega) (by omega) (by rw [hpe, hqe, e])
  have hP : w'.heap[p]? = some (expObj (ts.getD i 0) j) := by
    rw [hw']
    show (((((w.setCell ⟨g, i, none⟩ (ptr q)).setCell ⟨g, j, none⟩ (ptr p)).drew).setCell ⟨q, 5, none⟩ (.int .i64 i)).setCell ⟨p, 5, none⟩ (.int .i64 j)).heap[p]? = _
    have e0 : ((w.setCell ⟨g, i, none⟩ (ptr q)).setCell ⟨g, j, none⟩ (ptr p)).drew.heap[p]? = some (expObj (ts.getD i 0) i) := (hk1 p hp).trans ei
    by_cases e : p = q
    · have hij := hpp e
      subst e
      exact exp_set (exp_set e0 i) j
    · exact exp_set (by rw [sc _ _ _ _ _ e]; exact e0) j
  have hQ : w'.heap[q]? = some (expObj (ts.getD j 0) i) := by
    by_cases e : q = p
    · have hij := hpp e.symm
      subst hij
      rw [e]; exact hP
    · rw [hw']
      show (((((w.setCell ⟨g, i, none⟩ (ptr q)).setCell ⟨g, j, none⟩ (ptr p)).drew).setCell ⟨q, 5, none⟩ (.int .i64 i)).setCell ⟨p, 5, none⟩ (.int .i64 j)).heap[q]? = _
      rw [sc _ _ _ _ _ e]
      exact exp_set ((hk1 q hq).trans ej) i
  have hG : w'.heap[g]? = ((w.setCell ⟨g, i, none⟩ (ptr q)).setCell ⟨g, j, none⟩ (ptr p)).heap[g]? := by
    rw [hw']
    show (((((w.setCell ⟨g, i, none⟩ (ptr q)).setCell ⟨g, j, none⟩ (ptr p)).drew).setCell ⟨q, 5, none⟩ (.int .i64 i)).setCell ⟨p, 5, none⟩ (.int .i64 j)).heap[g]? = _
    rw [sc _ _ _ _ _ (Ne.symm hp), sc _ _ _ _ _ (Ne.symm hq)]
    rfl
  have hO : w'.ownsRow B 32 1 (.slice (some ⟨g, 0, none⟩) n c) n ((sw 0 ps i j).map ptr) := by
    have e : (sw 0 ps i j).map ptr = ((ps.map ptr).set i (ptr q)).set j (ptr p) := by simp [sw, List.map_set, hpe, hqe, List.getD_eq_getElem?_getD] <;> simp_all [List.getD_eq_getElem?_getD]
    rw [e]
    refine ⟨s2.1.1, ?_⟩
    rcases s2.1.2 with hh | ⟨g', cap', cur, hv, hb, hgg, r⟩
    · exact .inl hh
    · simp only [Value.slice.injEq, Option.some.injEq, Addr.mk.injEq, and_true, true_and] at hv
      obtain ⟨rfl, rfl⟩ := hv
      exact .inr ⟨_, _, cur, rfl, hb, by rw [hG]; exact hgg, r⟩
  refine ⟨rfl, ⟨hO, ?_, h.inj.sw i j (by omega) (by omega), by rw [sw_length]; exact h.lt, ?_⟩, ?_⟩
  · intro k hk
    rw [sw_getD 0 ps i j k (by omega) (by omega), sw_getD 0 ts i j k (by rw [h.lt]; omega) (by rw [h.lt]; omega)]
    by_cases k1 : k = j
    · subst k1; rw [if_pos rfl, if_pos rfl, hpe]; exact hP
    · rw [if_neg k1, if_neg k1]
      by_cases k2 : k = i
      · subst k2; rw [if_pos rfl, if_pos rfl, hqe]; exact hQ
      · rw [if_neg k2, if_neg k2, hkA _ (h.ne k hk) (fun e => k2 (h.inj k i (by omega) (by omega) (by rw [hpe]; exact e))) (fun e => k1 (h.inj k j (by omega) (by omega) (by rw [hqe]; exact e)))]
        exact h.ent k hk
  · intro k hk
    rw [sw_getD' 0 ps i j k (by omega) (by omega)]
    exact h.lo _ (by split <;> (try split) <;> omega)
  · have hs := fun (a b : Addr) (u v : Value) (x : World) => (scs (x.setCell a u) b v)
    refine ⟨?_, ?_, ?_, ?_, fun k h1 h2 => hkA k h1 (fun e => h2 (e ▸ mi)) (fun e => h2 (e ▸ mj))⟩
    · rw [hw']; rfl
    · rw [hw']; rfl
    · rw [hw']; rfl
    · rw [hw']
      show (((((w.setCell ⟨g, i, none⟩ (ptr q)).setCell ⟨g, j, none⟩ (ptr p)).drew).setCell ⟨q, 5, none⟩ (.int .i64 i)).setCell ⟨p, 5, none⟩ (.int .i64 j)).heap.size = _
      rw [(scs _ _ _).2.2.2, (scs _ _ _).2.2.2]
      show ((w.setCell ⟨g, i, none⟩ (ptr q)).setCell ⟨g, j, none⟩ (ptr p)).heap.size = _
      rw [(scs _ _ _).2.2.2, (scs _ _ _).2.2.2]

/-! ### THE BUILDING -/
/-- A slice of integers that can be read: each element lies in a block below B. -/
def Rd (B : Nat) (w : World) (k : IntKind) (a : Option Addr) (l : List Int) : Prop :=
  ∀ i, i < l.length → ∃ b off, a = some ⟨b, off, none⟩ ∧ b < B ∧ w.cell? ⟨b, off + i, none⟩ = some (.int k (l.getD i 0))
theorem Rd.below {B : Nat} {w w' : World} {k : IntKind} {a : Option Addr} {l : List Int} (h : Rd B w k a l) (hb : Below B w w') : Rd B w' k a l := by
  intro i hi
  obtain ⟨b, off, e, hlt, hc⟩ := h i hi
  exact ⟨b, off, e, hlt, (hb.cell (by exact hlt)).trans hc⟩
theorem Rd.mono {B B' : Nat} {w : World} {k : IntKind} {a : Option Addr} {l : List Int} (h : Rd B w k a l) (hB : B ≤ B') : Rd B' w k a l := by
  intro i hi
  obtain ⟨b, off, e, hlt, hc⟩ := h i hi
  exact ⟨b, off, e, by omega, hc⟩
theorem Try.info32 : (Try.prog.info? 32).map (fun i => (i.zero, i.size, i.bytes)) = some (some (.pointer none), 1, 8) := by kernel_rfl
/-- Behind k rounds. -/
structure Pa (w W : World) (n k : Nat) (ps : List Nat) (l : List Int) : Prop where
  own : W.ownsRow w.heap.size 32 1 (.slice (some ⟨w.heap.size, 0, none⟩) n n) n (ps.map ptr ++ List.replicate (n - k) (.pointer none))
  len : ps.length = k
  ent : ∀ i, i < k → W.heap[ps.getD i 0]? = some (expObj (l.getD i 0) i)
  inj : Inj ps
  lo : ∀ i, i < k → w.heap.size < ps.getD i 0
  b : Below w.heap.size w W
theorem getD_snoc (l : List Nat) (x i : Nat) (hi : i < l.length + 1) : (l ++ [x]).getD i 0 = if i < l.length then l.getD i 0 else x := by
  by_cases h : i < l.length
  · rw [if_pos h]; simp [List.getD_eq_getElem?_getD, List.getElem?_append_left h]
  · rw [if_neg h]
    have : i = l.length := by omega
    subst this
    simp
theorem Pa.step {w W w1 : World} {n k : Nat} {ps : List Nat} {l : List Int} (h : Pa w W n k ps l) (hk : k < n) (hw1 : w1 = W.alloc (expObj (l.getD k 0) k)) :
    (∃ v, w1.cell? ⟨w.heap.size, k, none⟩ = some v) ∧ w1.frozen? ⟨w.heap.size, k, none⟩ = false ∧ Pa w (w1.setCell ⟨w.heap.size, k, none⟩ (.pointer (some ⟨W.heap.size, 0, none⟩))) n (k + 1) (ps ++ [W.heap.size]) l := by
  subst hw1
  have ho := h.own.alloc (expObj (l.getD k 0) k)
  have hlen := h.len
  have s := ho.stored k (.pointer (some ⟨W.heap.size, 0, none⟩))
  have hN : w.heap.size < W.heap.size := by
    obtain ⟨_, cur, hc⟩ := own_obj h.own
    exact (Array.getElem?_eq_some_iff.1 hc).1
  refine ⟨⟨_, by rw [ho.cellAt k (by omega)]; exact List.getElem?_eq_getElem (by rw [ho.1]; omega)⟩, ho.frozenAt k, ⟨?_, by simp [hlen], ?_, ?_, ?_, ?_⟩⟩
  · have e : (ps.map ptr ++ List.replicate (n - k) (Value.pointer none)).set k (.pointer (some ⟨W.heap.size, 0, none⟩)) = (ps ++ [W.heap.size]).map ptr ++ List.replicate (n - (k + 1)) (.pointer none) := by
      rw [show n - k = (n - (k + 1)) + 1 by omega, List.replicate_succ, List.set_append_right _ _ (by simp; omega)]
      simp [hlen, ptr]
    rw [← e]
    exact s.1
  · intro i hi
    rw [getD_snoc _ _ _ (by omega)]
    split
    · have h1 := h.ent i (by omega)
      rw [sc _ _ _ _ _ (by have := h.lo i (by omega); omega), Below.heap_alloc _ _ _ (Array.getElem?_eq_some_iff.1 h1).1]
      exact h1
    · have : i = k := by omega
      subst this
      rw [sc _ _ _ _ _ (by omega)]
      exact heap_alloc_new _ _
  · intro i j hi hj e
    simp only [List.length_append, List.length_singleton] at hi hj
    rw [getD_snoc _ _ _ hi, getD_snoc _ _ _ hj] at e
    have q : ∀ i, i < ps.length → ps.getD i 0 < W.heap.size := fun i hi => (Array.getElem?_eq_some_iff.1 (h.ent i (by omega))).1
    by_cases a : i < ps.length
    · by_cases b : j < ps.length
      · rw [if_pos a, if_pos b] at e; exact h.inj i j a b e
      · rw [if_pos a, if_neg b] at e; have := q i a; omega
    · by_cases b : j < ps.length
      · rw [if_neg a, if_pos b] at e; have := q j b; omega
      · omega
  · intro i hi
    rw [getD_snoc _ _ _ (by omega)]
    split
    · exact h.lo i (by omega)
    · exact hN
  · exact (h.b.alloc (by omega) _).setCell (Nat.le_refl _) _

set_option maxRecDepth 100000 in
set_option maxHeartbeats 1000000 in
theorem z6 {B : Nat} (a : Option Addr) (cap : Nat) (l : List Int) (w : World) (hl : l.length ≤ 1048576) (hR : Rd B w .i64 a l) (hB : B ≤ w.heap.size) :
    Calls Try.prog 6 #[.slice a l.length cap] w fun e w' => e = .returned (.slice (some ⟨w.heap.size, 0, none⟩) l.length l.length) ∧ Hid ((∃ ps, Qu w' w.heap.size w.heap.size l.length l.length ps l) ∧ Below w.heap.size w w') := by
  obtain ⟨i0, hi, hz0, hz1, hz2⟩ := info_parts Try.info32
  have HR : Hid (Rd B w .i64 a l) := hR
  clear hR
  generalize hn : l.length = n at *
  have Hn : Hid (l.length = n) := hn
  clear hn
  go_enter Try.func6, Try.ntmps6
  go_wp2_with (at_make; (refine wpList_make_full _ rfl _ _ 26 rfl w.heap.size 32 i0 (.pointer none) 1 Try.underlying26 hi hz0 hz1 .i64 .i64 _ _ n rfl rfl rfl rfl ?c1 ?c2 ?c3 ?_))
  case c1 => rw [hz2]; omega
  case c2 => unfold maxLen; omega
  case c3 => exact Nat.le_refl _
  intro w1 hown hg
  have HP : Hid (Pa w w1 n 0 [] l) := ⟨by simpa [toList_madeCells_one, Value.cells] using hown, rfl, fun i hi => absurd hi (by omega), fun i j hi => absurd hi (by simp), fun i hi => absurd hi (by omega), ⟨hg.os, hg.tape, hg.output, hg.size, fun k hk => hg.block k hk (by simp)⟩⟩
  clear hown hg
  go_wp2
  go_loopw [4] (fun i wr => ∃ (k : Nat) (ps : List Nat), k ≤ n ∧ i = .int .i64 k ∧ Hid (Pa w wr n k ps l)) (fun i _ => n - (intOf i).toNat)
  case atStart => exact ⟨0, [], Nat.zero_le _, rfl, HP⟩
  case round =>
    obtain ⟨k, ps, hk, rfl, hP⟩ := hrel
    clear HP
    by_cases hlt : k < n
    · obtain ⟨b, off, ha, hbB, hc⟩ := HR.out k (by rw [Hn.out]; exact hlt)
      have hcx : wr.cell? ⟨b, off + k, none⟩ = some (.int .i64 (l.getD k 0)) := (hP.out.b.cell (show b < w.heap.size by omega)).trans hc
      subst ha
      clear hc
      have Hstep : Hid (∀ w1, w1 = wr.alloc (expObj (l.getD k 0) k) → _) := fun w1 hw1 => hP.out.step hlt hw1
      generalize l.getD k 0 = x at hcx Hstep
      go_wp2_with fail
      refine (z11 _ _ _).mono ?_
      rintro e w2 ⟨rfl, hw2⟩
      obtain ⟨⟨v, hv⟩, hf, hP2⟩ := Hstep.out w2 hw2
      have HP2 : Hid _ := hP2
      clear hP2 hw2 Hstep
      go_wp2
      go_roundw
      case rel => exact ⟨k + 1, _, by omega, by go_num, HP2⟩
      case measure => simp [intOf]; omega
    · have hkn : k = n := by omega
      subst hkn
      go_wp2
      go_ret
      refine ⟨rfl, ⟨ps, ?_, hP.out.ent, hP.out.inj, Hn.out, fun i hi => Nat.le_of_lt (hP.out.lo i hi)⟩, hP.out.b⟩
      have := hP.out.own
      simpa using this

end Go.Proofs.Qxb6612651a.eq
