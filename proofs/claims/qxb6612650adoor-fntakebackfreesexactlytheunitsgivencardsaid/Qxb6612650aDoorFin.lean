import Derived.Test.Qxb6612650aDoorTake
import Derived.Laws.CopyOwn
namespace Go.Proofs.Qxb6612650aDoor.tb
open Go.ChangeShapes Go.WideShapes Go.ChangeAt Go.RowKit

/-- No block that was there has turned. -/
def Ones (w w' : World) : Prop := ∀ X, One X w w'
theorem Ones.trans {a b c : World} (h : Ones a b) (k : Ones b c) : Ones a c := fun X => (h X).trans (k X)
theorem Ones.refl (w : World) : Ones w w := fun X => One.refl X w
theorem Ones.alloc {a w : World} (h : Ones a w) (o : Obj) : Ones a (w.alloc o) := fun X => (h X).alloc o
theorem Ones.drewN {a w : World} (h : Ones a w) (n : Nat) : Ones a (w.drewN n) := fun X => (h X).drewN n
theorem Ones.grown {a w w' : World} {row : Option Nat} (h : Ones a w) (g : w.grownBy w' row) (hr : ∀ k, row = some k → a.heap.size ≤ k) : Ones a w' := fun X =>
  ⟨g.os.trans (h X).os, g.tape.trans (h X).tape, g.output.trans (h X).output, Nat.le_trans (h X).size g.size, fun k hk hne =>
    (g.block k (Nat.lt_of_lt_of_le hk (h X).size) (fun e => by have := hr k e.symm; omega)).trans ((h X).block k hk hne)⟩
theorem Ones.below {w W W' : World} {B : Nat} (h : Ones W W') (b : Below B w W) (hB : B ≤ W.heap.size) : Below B w W' :=
  b.trans ⟨(h 0).os, (h 0).tape, (h 0).output, (h 0).size, fun k hk => (h (k + 1)).block k (by omega) (by omega)⟩
theorem Ones.heap {w w' : World} (h : Ones w w') {b : Nat} {o : Obj} (hb : w.heap[b]? = some o) : w'.heap[b]? = some o := (h (b + 1)).heap hb (by omega)
theorem Ones.cell {w w' : World} (h : Ones w w') {b o : Nat} {v : Value} (hb : w.cell? ⟨b, o, none⟩ = some v) : w'.cell? ⟨b, o, none⟩ = some v := (h (b + 1)).cell hb (by omega)
theorem Ones.own {w w' : World} (h : Ones w w') {b base e n c : Nat} {xs : List Value} (ho : w.ownsRow base e 1 (.slice (some ⟨b, 0, none⟩) n c) n xs) : w'.ownsRow base e 1 (.slice (some ⟨b, 0, none⟩) n c) n xs := (h (b + 1)).own ho (by omega)
theorem Tb.ones {w w' : World} {L : Bk} {A : Ab} (T : Tb w L A) (h : Ones w w') : Tb w' L A :=
  ⟨h.heap T.s, h.heap T.g, h.heap T.n, h.own T.r0, h.own T.r1, h.own T.gp, h.own T.gr, h.heap T.c, ⟨h.cell T.v.1, h.cell T.v.2⟩, fun b hb => (h (b + 1)).isCells (T.th b hb) (by omega), T.t0, T.t1, T.tg, T.tn, T.ts, T.nd, T.lo, T.sz⟩
theorem Hf.ones {W W' : World} {bs bg : Nat} {sw : Bool} {hp : Option (Nat × Nat)} (h : Hf W bs bg sw hp) (o : Ones W W') : Hf W' bs bg sw hp := by
  cases hp with
  | none => trivial
  | some p => obtain ⟨bh, oh⟩ := p; exact ⟨o.heap h.1, o.heap h.2.1, h.2.2⟩
theorem Built.ones {w W W' : World} {L : Bk} {A : Ab} {bt : Nat} {hp : Option (Nat × Nat)} {C M : List Int} {sw ao : Bool} (b : Built w W L A bt hp C M sw ao) (o : Ones W W') : Built w W' L A bt hp C M sw ao :=
  ⟨b.T.ones o, b.eA, b.t.elim fun tv h => ⟨tv, o.heap h⟩, b.tb, b.h.ones o, b.ord, b.a, o.below b.b (by have := b.T.lo; have := b.B; have := (Array.getElem?_eq_some_iff.1 b.T.s).1; omega), b.B⟩

/-- WHAT STANDS BEHIND takeBack, as long as the law lasts. -/
structure Fin (w W : World) (L : Bk) (A : Ab) (bt N : Nat) (hp : Option (Nat × Nat)) (C M : List Int) (sw : Bool) : Prop where
  T : Tb W L A
  t : ∃ tv, W.heap[bt]? = some (grantObj false tv (c2 C) (c2 M))
  h : Hf W L.bs L.bg sw hp
  st : W.heap[N]? = some (stObj (ptr L.bn) (ptr L.bs) (ptr bt) (ptr L.bg) (phv hp))
  b : Below w.heap.size w W
theorem Fin.ones {w W W' : World} {L : Bk} {A : Ab} {bt N : Nat} {hp : Option (Nat × Nat)} {C M : List Int} {sw : Bool} (f : Fin w W L A bt N hp C M sw) (o : Ones W W') : Fin w W' L A bt N hp C M sw :=
  ⟨f.T.ones o, f.t.elim fun tv h => ⟨tv, o.heap h⟩, f.h.ones o, o.heap f.st, o.below f.b f.b.size⟩

/-- A block that is none of L's, kept by takeBack: told apart by its type, or by name. -/
theorem Fr.heap {L : Bk} {A : Ab} {w w' : World} (h : Fr L w w') (T : Tb w L A) {b : Nat} {cs : Array Value} {e : Nat} (hb : w.heap[b]? = some (.cells cs e)) (h66 : e = 66 → b ≠ L.bs) (h63 : e = 63 → b ≠ L.bg) (h81 : e ≠ 81) (h31 : e = 31 → b ≠ L.o0 ∧ b ≠ L.o1 ∧ b ≠ L.gb) (h32 : e ≠ 32) : w'.heap[b]? = some (.cells cs e) := by
  obtain ⟨c0, r0⟩ := own_obj T.r0
  obtain ⟨c1, r1⟩ := own_obj T.r1
  obtain ⟨c2, r2⟩ := own_obj T.gp
  obtain ⟨c3, r3⟩ := own_obj T.gr
  rw [h.block b (Array.getElem?_eq_some_iff.1 hb).1 ?_ ?_ ?_ ?_ ?_ ?_ ?_ ?_]
  · exact hb
  · intro e'; subst e'; rw [T.s] at hb; simp [grantObj] at hb; exact h66 hb.2.symm rfl
  · intro e'; subst e'; rw [T.g] at hb; simp [gpuObj] at hb; exact h63 hb.2.symm rfl
  · intro e'; subst e'; rw [T.n] at hb; simp [nodeObj] at hb; exact h81 hb.2.symm
  · intro e'; subst e'; rw [r0] at hb; simp at hb; exact (h31 hb.2.symm).1 rfl
  · intro e'; subst e'; rw [r1] at hb; simp at hb; exact (h31 hb.2.symm).2.1 rfl
  · intro e'; subst e'; rw [r2] at hb; simp at hb; exact h32 hb.2.symm
  · intro e'; subst e'; rw [r3] at hb; simp at hb; exact (h31 hb.2.symm).2.2 rfl
  · intro e'; subst e'; rw [T.c] at hb; cases hb
theorem Fr.hf {L : Bk} {A : Ab} {w w' : World} {bs bg : Nat} {sw : Bool} {hp : Option (Nat × Nat)} (h : Fr L w w') (T : Tb w L A) (hbg : bg = L.bg) (f : Hf w bs bg sw hp) (o : L.o0 < L.bg ∧ L.o1 < L.bg ∧ ohLt L.gb hp) : Hf w' bs bg sw hp := by
  subst hbg
  cases hp with
  | none => trivial
  | some p =>
    obtain ⟨bh, oh⟩ := p
    have l : oh < L.gb := o.2.2
    exact ⟨h.heap T f.1 (by intro h; omega) (fun _ => by have := f.2.2.2; omega) (by intro h; omega) (by intro h; omega) (by intro h; omega), h.heap T f.2.1 (by intro h; omega) (by intro h; omega) (by intro h; omega) (fun _ => by have := f.2.2.1; omega) (by intro h; omega), f.2.2⟩
/-- From the build and takeBack to what lasts. -/
theorem fin_mk {w w2 W4 w5 : World} {L : Bk} {A A1 : Ab} {bt N : Nat} {hp : Option (Nat × Nat)} {C M : List Int} {sw ao : Bool} {ch' : Nat} (Bt : Built w2 W4 L A bt hp C M sw ao) (F : Fr L W4 w5) (T : Tb w5 { L with ch := ch' } A1)
    (hst : W4.heap[N]? = some (stObj (ptr L.bn) (ptr L.bs) (ptr bt) (ptr L.bg) (phv hp))) (hb : Below w.heap.size w w2) : Fin w w5 { L with ch := ch' } A1 bt N hp C M sw := by
  refine ⟨T, ?_, F.hf Bt.T rfl Bt.h Bt.ord, F.heap Bt.T hst (by intro h; omega) (by intro h; omega) (by intro h; omega) (by intro h; omega) (by intro h; omega), ?_⟩
  · obtain ⟨tv, ht⟩ := Bt.t
    exact ⟨tv, F.heap Bt.T ht (fun _ => by have := Bt.tb; omega) (by intro h; omega) (by intro h; omega) (by intro h; omega) (by intro h; omega)⟩
  · have h1 : Below w2.heap.size w2 w5 := by
      have := F.below Bt.T
      rw [Bt.B] at this
      exact Bt.b.trans this
    exact hb.trans (h1.mono hb.size)

end Go.Proofs.Qxb6612650aDoor.tb
