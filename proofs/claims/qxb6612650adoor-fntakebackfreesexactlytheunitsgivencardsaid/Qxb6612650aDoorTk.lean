import Derived.Test.Qxb6612650aDoorState
import Derived.BigRegion
import Derived.Deep.RegionWith
import Derived.Deep.CutRange
namespace Go.Proofs.Qxb6612650aDoor.tb
open Go.ChangeShapes Go.WideShapes Go.ChangeAt Go.RowKit

theorem gpu_cell {w : World} {b : Nat} {mi f0 f1 : Int} {o0 o1 : Value} {wh : Bool} (h : w.heap[b]? = some (gpuObj mi o0 o1 f0 f1 wh)) :
    w.cell? ⟨b, 16, none⟩ = some o0 ∧ w.cell? ⟨b, 17, none⟩ = some o1 ∧ w.cell? ⟨b, 18, none⟩ = some (.int .i64 f0) ∧ w.cell? ⟨b, 19, none⟩ = some (.int .i64 f1) ∧ w.cell? ⟨b, 20, none⟩ = some (.bool wh) := by
  simp [World.cell?, h, gpuObj]
theorem gpu_frozen {w : World} {b : Nat} {mi f0 f1 : Int} {o0 o1 : Value} {wh : Bool} (h : w.heap[b]? = some (gpuObj mi o0 o1 f0 f1 wh)) (o : Nat) : w.frozen? ⟨b, o, none⟩ = false := by
  exact frozen_of_row w b o _ _ h
theorem gpu_set18 {w : World} {b : Nat} {mi f0 f1 : Int} {o0 o1 : Value} {wh : Bool} (h : w.heap[b]? = some (gpuObj mi o0 o1 f0 f1 wh)) (x : Int) : (w.setCell ⟨b, 18, none⟩ (.int .i64 x)).heap[b]? = some (gpuObj mi o0 o1 x f1 wh) :=
  heap_setCell_same w b 18 _ _ _ h
theorem gpu_set19 {w : World} {b : Nat} {mi f0 f1 : Int} {o0 o1 : Value} {wh : Bool} (h : w.heap[b]? = some (gpuObj mi o0 o1 f0 f1 wh)) (x : Int) : (w.setCell ⟨b, 19, none⟩ (.int .i64 x)).heap[b]? = some (gpuObj mi o0 o1 f0 x wh) :=
  heap_setCell_same w b 19 _ _ _ h
theorem gpu_set20 {w : World} {b : Nat} {mi f0 f1 : Int} {o0 o1 : Value} {wh : Bool} (h : w.heap[b]? = some (gpuObj mi o0 o1 f0 f1 wh)) (x : Bool) : (w.setCell ⟨b, 20, none⟩ (.bool x)).heap[b]? = some (gpuObj mi o0 o1 f0 f1 x) :=
  heap_setCell_same w b 20 _ _ _ h
theorem grant_cell {w : World} {b : Nat} {sw : Bool} {gp : Value} {h0 h1 : Int} (h : w.heap[b]? = some (grantObj sw gp h0 h1)) :
    w.cell? ⟨b, 0, none⟩ = some (.bool sw) ∧ w.cell? ⟨b, 1, none⟩ = some gp ∧ w.cell? ⟨b, 2, none⟩ = some (.int .i64 h0) ∧ w.cell? ⟨b, 3, none⟩ = some (.int .i64 h1) := by
  simp [World.cell?, h, grantObj]
theorem grant_frozen {w : World} {b : Nat} {sw : Bool} {gp : Value} {h0 h1 : Int} (h : w.heap[b]? = some (grantObj sw gp h0 h1)) (o : Nat) : w.frozen? ⟨b, o, none⟩ = false := frozen_of_row w b o _ _ h
theorem grant_set1 {w : World} {b : Nat} {sw : Bool} {gp : Value} {h0 h1 : Int} (h : w.heap[b]? = some (grantObj sw gp h0 h1)) (x : Value) : (w.setCell ⟨b, 1, none⟩ x).heap[b]? = some (grantObj sw x h0 h1) := heap_setCell_same w b 1 _ _ _ h
theorem grant_set2 {w : World} {b : Nat} {sw : Bool} {gp : Value} {h0 h1 : Int} (h : w.heap[b]? = some (grantObj sw gp h0 h1)) (x : Int) : (w.setCell ⟨b, 2, none⟩ (.int .i64 x)).heap[b]? = some (grantObj sw gp x h1) := heap_setCell_same w b 2 _ _ _ h
theorem grant_set3 {w : World} {b : Nat} {sw : Bool} {gp : Value} {h0 h1 : Int} (h : w.heap[b]? = some (grantObj sw gp h0 h1)) (x : Int) : (w.setCell ⟨b, 3, none⟩ (.int .i64 x)).heap[b]? = some (grantObj sw gp h0 x) := heap_setCell_same w b 3 _ _ _ h
theorem node_cell {w : World} {b : Nat} {gr ch : Value} (h : w.heap[b]? = some (nodeObj gr ch)) : w.cell? ⟨b, 6, none⟩ = some gr ∧ w.cell? ⟨b, 10, none⟩ = some ch := by
  simp [World.cell?, h, nodeObj]
theorem node_frozen {w : World} {b : Nat} {gr ch : Value} (h : w.heap[b]? = some (nodeObj gr ch)) (o : Nat) : w.frozen? ⟨b, o, none⟩ = false := frozen_of_row w b o _ _ h
theorem node_set6 {w : World} {b : Nat} {gr ch : Value} (h : w.heap[b]? = some (nodeObj gr ch)) (x : Value) : (w.setCell ⟨b, 6, none⟩ x).heap[b]? = some (nodeObj x ch) := heap_setCell_same w b 6 _ _ _ h
theorem node_set10 {w : World} {b : Nat} {gr ch : Value} (h : w.heap[b]? = some (nodeObj gr ch)) (x : Value) : (w.setCell ⟨b, 10, none⟩ x).heap[b]? = some (nodeObj gr x) := heap_setCell_same w b 10 _ _ _ h

theorem row_cell {w : World} {base e b n c : Nat} {os : List (Option Nat)} (h : w.ownsRow base e 1 (.slice (some ⟨b, 0, none⟩) n c) n (os.map pv)) (i : Nat) (hi : i < os.length) : w.cell? ⟨b, i, none⟩ = some (pv (os.getD i none)) := by
  have hl : os.length = n := by simpa using h.1
  rw [h.cellAt i (by omega)]
  simp [hi]
theorem own_lt {w : World} {b base e n c : Nat} {xs : List Value} (ho : w.ownsRow base e 1 (.slice (some ⟨b, 0, none⟩) n c) n xs) : b < w.heap.size := by
  obtain ⟨_, _, h⟩ := own_cells ho
  exact (Array.getElem?_eq_some_iff.1 h).1
/-! ### STRIKING UNITS -/
def strike (os : List (Option Nat)) (U : List Int) : List (Option Nat) := U.foldl (fun o u => o.set u.toNat none) os
theorem strike_snoc (os : List (Option Nat)) (U : List Int) (u : Int) : strike os (U ++ [u]) = (strike os U).set u.toNat none := by simp [strike]
theorem strike_length (U : List Int) : ∀ os : List (Option Nat), (strike os U).length = os.length := by
  induction U with
  | nil => intro os; rfl
  | cons u U ih => intro os; show (strike (os.set u.toNat none) U).length = _; rw [ih]; simp
theorem strike_mem (U : List Int) : ∀ (os : List (Option Nat)) (b : Nat), some b ∈ strike os U → some b ∈ os := by
  induction U with
  | nil => intro os b h; exact h
  | cons u U ih =>
    intro os b h
    have h1 := ih (os.set u.toNat none) b h
    rcases List.mem_or_eq_of_mem_set h1 with h2 | h2
    · exact h2
    · cases h2

theorem Tb.rowR0 {w : World} {L : Bk} {A : Ab} (T : Tb w L A) : Row w L.o0 A.os0 := ⟨fun i hi => row_cell T.r0 i hi, fun b hb => T.th b (T.t0 b hb)⟩
theorem Tb.rowR1 {w : World} {L : Bk} {A : Ab} (T : Tb w L A) : Row w L.o1 A.os1 := ⟨fun i hi => row_cell T.r1 i hi, fun b hb => T.th b (T.t1 b hb)⟩

/-- The two boxes that takeBack lays for its captured parameters. -/
structure Bx (w : World) (N bs bg : Nat) : Prop where
  s : w.heap[N]? = some (.cells #[.pointer (some ⟨bs, 0, none⟩)] 31)
  g : w.heap[N + 1]? = some (.cells #[.pointer (some ⟨bg, 0, none⟩)] 32)
theorem Bx.one {w w' : World} {N bs bg X : Nat} (b : Bx w N bs bg) (h : One X w w') (hX : X < N) : Bx w' N bs bg := ⟨h.heap b.s (by omega), h.heap b.g (by omega)⟩
theorem Bx.cell {w : World} {N bs bg : Nat} (b : Bx w N bs bg) : w.cell? ⟨N, 0, none⟩ = some (.pointer (some ⟨bs, 0, none⟩)) ∧ w.cell? ⟨N + 1, 0, none⟩ = some (.pointer (some ⟨bg, 0, none⟩)) := by
  simp [World.cell?, b.s, b.g]

theorem Fr.below {L : Bk} {A : Ab} {w w' : World} (h : Fr L w w') (T : Tb w L A) : Below L.B w w' :=
  ⟨h.os, h.tape, h.output, h.size, fun k hk => by
    by_cases hs : k < w.heap.size
    · have l := T.lo
      exact h.block k hs (by omega) (by omega) (by omega) (by omega) (by omega) (by omega) (by omega) (by omega)
    · have l := T.lo
      have := (Array.getElem?_eq_some_iff.1 T.s).1
      omega⟩
theorem Tb.drew {w : World} {L : Bk} {A : Ab} (T : Tb w L A) : Tb w.drew L A := ⟨T.s, T.g, T.n, T.r0, T.r1, T.gp, T.gr, T.c, T.v, T.th, T.t0, T.t1, T.tg, T.tn, T.ts, T.nd, T.lo, T.sz⟩
theorem setB_same {w : World} {r : Nat} {o o' : Obj} (h : w.heap[r]? = some o) : (setB w r o').heap[r]? = some o' := by
  have := (Array.getElem?_eq_some_iff.1 h).1
  simp [setB, this]
theorem One.setB (w : World) (r : Nat) (o : Obj) : One r w (setB w r o) := ⟨rfl, rfl, rfl, by rw [setB_size]; exact Nat.le_refl _, fun k _ h => setB_other w r k o h⟩
/-- The closing of the channel, as withheldChanged does it. -/
theorem chan_step {w W w6 : World} {L : Bk} {A : Ab} {N : Nat} (T : Tb W L A) (B : Bx W N L.bs L.bg) (F : Fr L w W) (hN : L.bn < N ∧ L.ch < N)
    (hw : w6 = ((setB W L.ch (.chan 0 #[] true 0 0 false)).setCell ⟨L.bn, 10, none⟩ (.chan (some W.heap.size))).alloc (.chan 0 #[] false 0 0 false)) : Tb w6 { L with ch := W.heap.size } A ∧ Bx w6 N L.bs L.bg ∧ Fr L w w6 := by
  subst hw
  have o1 := One.setB W L.ch (.chan 0 #[] true 0 0 false)
  have o2 := One.setCell (setB W L.ch (.chan 0 #[] true 0 0 false)) L.bn 10 (.chan (some W.heap.size))
  have o3 := o2.alloc (.chan 0 #[] false 0 0 false)
  have hne : L.bn ≠ L.ch := (ndS T.nd).2.2.1.2.2.2.2
  have hn1 := o1.heap T.n hne
  refine ⟨T.chan o1 o3 W.heap.size (Nat.le_refl _) ?_ ?_, (B.one o1 hN.2).one o3 hN.1, (F.trans (o1.fr (by simp))).trans (o3.fr (by simp))⟩
  · rw [Below.heap_alloc _ _ _ (by simp [World.setCell, setB_size]; exact (Array.getElem?_eq_some_iff.1 T.n).1)]
    exact node_set10 hn1 _
  · have h := heap_alloc_new ((setB W L.ch (.chan 0 #[] true 0 0 false)).setCell ⟨L.bn, 10, none⟩ (.chan (some W.heap.size))) (.chan 0 #[] false 0 0 false)
    have e : ((setB W L.ch (.chan 0 #[] true 0 0 false)).setCell ⟨L.bn, 10, none⟩ (.chan (some W.heap.size))).heap.size = W.heap.size := by simp [World.setCell, setB_size]
    rw [e] at h
    exact h
def holds (L : Bk) (A : Ab) : Prop := some L.bs ∈ A.os0 ∨ some L.bs ∈ A.os1
/-- What takeBack leaves, told from what stood when the units were struck (A). -/
def TPost (L : Bk) (A : Ab) (grest nrest : List Nat) (w : World) (e : Ending) (w' : World) : Prop :=
  Fr L w w' ∧ ∃ ch', (holds L A ∧ e = .returned (.bool false) ∧ Tb w' { L with ch := ch' } A) ∨
    (¬ holds L A ∧ grest ≠ [] ∧ e = .returned (.bool false) ∧ Tb w' { L with ch := ch' } { A with gps := grest, wh := !A.sw && A.wh }) ∨
    (¬ holds L A ∧ grest = [] ∧ e = .returned (.bool true) ∧ Tb w' { L with ch := ch' } { A with gps := grest, wh := !A.sw && A.wh, nds := nrest })


end Go.Proofs.Qxb6612650aDoor.tb
