import Derived.Test.Qxb6612650aDoorTk
import Derived.Deep.RegionHeld3
import Derived.Deep.CutRange
import Derived.Deep.DeepCutAuto
namespace Go.Proofs.Qxb6612650aDoor.tb
open Go.ChangeShapes Go.WideShapes Go.ChangeAt Go.RowKit

theorem heap_at (w : World) (o : Obj) (k : Nat) (h : k = w.heap.size) : (w.alloc o).heap[k]? = some o := by subst h; exact heap_alloc_new _ _
/-- The struct tbState in memory. -/
def stObj (n s t g h : Value) : Obj := .cells #[n, s, t, g, h] 34
theorem st_cell {w : World} {b : Nat} {p0 p1 p2 p3 p4 : Value} (h : w.heap[b]? = some (stObj p0 p1 p2 p3 p4)) :
    w.cell? ⟨b, 0, none⟩ = some p0 ∧ w.cell? ⟨b, 1, none⟩ = some p1 ∧ w.cell? ⟨b, 2, none⟩ = some p2 ∧ w.cell? ⟨b, 3, none⟩ = some p3 ∧ w.cell? ⟨b, 4, none⟩ = some p4 := by
  simp [World.cell?, h, stObj]
theorem st_frozen {w : World} {b : Nat} {p0 p1 p2 p3 p4 : Value} (h : w.heap[b]? = some (stObj p0 p1 p2 p3 p4)) (o : Nat) : w.frozen? ⟨b, o, none⟩ = false := frozen_of_row w b o _ _ h
theorem st_set0 {w : World} {b : Nat} {p0 p1 p2 p3 p4 : Value} (h : w.heap[b]? = some (stObj p0 p1 p2 p3 p4)) (x : Value) : (w.setCell ⟨b, 0, none⟩ x).heap[b]? = some (stObj x p1 p2 p3 p4) := heap_setCell_same w b 0 _ _ _ h
theorem st_set3 {w : World} {b : Nat} {p0 p1 p2 p3 p4 : Value} (h : w.heap[b]? = some (stObj p0 p1 p2 p3 p4)) (x : Value) : (w.setCell ⟨b, 3, none⟩ x).heap[b]? = some (stObj p0 p1 p2 x p4) := heap_setCell_same w b 3 _ _ _ h
theorem st_set4 {w : World} {b : Nat} {p0 p1 p2 p3 p4 : Value} (h : w.heap[b]? = some (stObj p0 p1 p2 p3 p4)) (x : Value) : (w.setCell ⟨b, 4, none⟩ x).heap[b]? = some (stObj p0 p1 p2 p3 x) := heap_setCell_same w b 4 _ _ _ h

/-- The part of the build's state that lasts: the result's block, st's block, the two grants. -/
structure Bd (w W : World) (N0 N1 bs bt : Nat) (pg ph : Value) (sw : Bool) (gv tv : Value) (h0 h1 t0 t1 : Int) : Prop where
  r : W.heap[N0]? = some (stObj (.pointer none) (.pointer none) (.pointer none) (.pointer none) (.pointer none))
  st : W.heap[N1]? = some (stObj (.pointer none) (ptr bs) (ptr bt) pg ph)
  s : W.heap[bs]? = some (grantObj sw gv h0 h1)
  t : W.heap[bt]? = some (grantObj false tv t0 t1)
  b : Below w.heap.size w W
  ord : w.heap.size ≤ N0 ∧ N0 < N1 ∧ N1 < bs ∧ bs < bt ∧ bt < W.heap.size
theorem One.below {X B : Nat} {w W W' : World} (h : One X W W') (hb : Below B w W) (hX : B ≤ X) (hB : B ≤ W.heap.size) : Below B w W' :=
  hb.trans ⟨h.os, h.tape, h.output, h.size, fun k hk => h.block k (by omega) (by omega)⟩
/-- A block beyond the grants has turned. -/
theorem Bd.one {w W W' : World} {N0 N1 bs bt X : Nat} {pg ph gv tv : Value} {sw : Bool} {h0 h1 t0 t1 : Int} (d : Bd w W N0 N1 bs bt pg ph sw gv tv h0 h1 t0 t1) (h : One X W W') (hX : bt < X) : Bd w W' N0 N1 bs bt pg ph sw gv tv h0 h1 t0 t1 := by
  have o := d.ord
  exact ⟨h.heap d.r (by omega), h.heap d.st (by omega), h.heap d.s (by omega), h.heap d.t (by omega), h.below d.b (by omega) (by omega), by have := h.size; omega⟩
theorem Bd.setG {w W : World} {N0 N1 bs bt : Nat} {pg ph gv tv : Value} {sw : Bool} {h0 h1 t0 t1 : Int} (d : Bd w W N0 N1 bs bt pg ph sw gv tv h0 h1 t0 t1) (x : Value) : Bd w (W.setCell ⟨N1, 3, none⟩ x) N0 N1 bs bt x ph sw gv tv h0 h1 t0 t1 := by
  have o := d.ord
  have h := One.setCell W N1 3 x
  exact ⟨h.heap d.r (by omega), st_set3 d.st x, h.heap d.s (by omega), h.heap d.t (by omega), h.below d.b (by omega) (by omega), by have := h.size; omega⟩
theorem Bd.setH {w W : World} {N0 N1 bs bt : Nat} {pg ph gv tv : Value} {sw : Bool} {h0 h1 t0 t1 : Int} (d : Bd w W N0 N1 bs bt pg ph sw gv tv h0 h1 t0 t1) (x : Value) : Bd w (W.setCell ⟨N1, 4, none⟩ x) N0 N1 bs bt pg x sw gv tv h0 h1 t0 t1 := by
  have o := d.ord
  have h := One.setCell W N1 4 x
  exact ⟨h.heap d.r (by omega), st_set4 d.st x, h.heap d.s (by omega), h.heap d.t (by omega), h.below d.b (by omega) (by omega), by have := h.size; omega⟩
theorem Bd.setS {w W : World} {N0 N1 bs bt : Nat} {pg ph gv tv : Value} {sw : Bool} {h0 h1 t0 t1 : Int} (d : Bd w W N0 N1 bs bt pg ph sw gv tv h0 h1 t0 t1) (x : Value) : Bd w (W.setCell ⟨bs, 1, none⟩ x) N0 N1 bs bt pg ph sw x tv h0 h1 t0 t1 := by
  have o := d.ord
  have h := One.setCell W bs 1 x
  exact ⟨h.heap d.r (by omega), h.heap d.st (by omega), grant_set1 d.s x, h.heap d.t (by omega), h.below d.b (by omega) (by omega), by have := h.size; omega⟩
theorem Bd.setT {w W : World} {N0 N1 bs bt : Nat} {pg ph gv tv : Value} {sw : Bool} {h0 h1 t0 t1 : Int} (d : Bd w W N0 N1 bs bt pg ph sw gv tv h0 h1 t0 t1) (x : Value) : Bd w (W.setCell ⟨bt, 1, none⟩ x) N0 N1 bs bt pg ph sw gv x h0 h1 t0 t1 := by
  have o := d.ord
  have h := One.setCell W bt 1 x
  exact ⟨h.heap d.r (by omega), h.heap d.st (by omega), h.heap d.s (by omega), grant_set1 d.t x, h.below d.b (by omega) (by omega), by have := h.size; omega⟩

/-- The gpu and its two rows of owners. -/
structure Gp (W : World) (B bt o0 o1 bg : Nat) (os0 os1 : List (Option Nat)) (f0 f1 : Int) (sw : Bool) : Prop where
  r0 : W.ownsRow B 31 1 (.slice (some ⟨o0, 0, none⟩) os0.length os0.length) os0.length (os0.map pv)
  r1 : W.ownsRow B 31 1 (.slice (some ⟨o1, 0, none⟩) os1.length os1.length) os1.length (os1.map pv)
  g : W.heap[bg]? = some (gpuObj 0 (.slice (some ⟨o0, 0, none⟩) os0.length os0.length) (.slice (some ⟨o1, 0, none⟩) os1.length os1.length) f0 f1 sw)
  ord : bt < o0 ∧ o0 < o1 ∧ o1 < bg ∧ bg < W.heap.size
theorem Gp.one {W W' : World} {B bt o0 o1 bg X : Nat} {os0 os1 : List (Option Nat)} {f0 f1 : Int} {sw : Bool} (d : Gp W B bt o0 o1 bg os0 os1 f0 f1 sw) (h : One X W W') (hX : X ≠ o0 ∧ X ≠ o1 ∧ X ≠ bg) : Gp W' B bt o0 o1 bg os0 os1 f0 f1 sw :=
  ⟨h.own d.r0 (Ne.symm hX.1), h.own d.r1 (Ne.symm hX.2.1), h.heap d.g (Ne.symm hX.2.2), by have := h.size; have := d.ord; omega⟩

theorem owners_length (s t : Nat) (l : List Int) : (owners s t l).length = l.length := by simp [owners]
theorem base_mono {w : World} {B B' e b n c : Nat} {xs : List Value} (h : w.ownsRow B e 1 (.slice (some ⟨b, 0, none⟩) n c) n xs) (hB : B' ≤ B) : w.ownsRow B' e 1 (.slice (some ⟨b, 0, none⟩) n c) n xs := by
  refine ⟨h.1, ?_⟩
  rcases h.2 with h | ⟨g, cap, cur, hv, hb, r⟩
  · exact .inl h
  · exact .inr ⟨g, cap, cur, hv, by omega, r⟩
/-- The second gpu, where there is one: its block and its one row of owners. -/
def Hf (W : World) (bs bg : Nat) (sw : Bool) : Option (Nat × Nat) → Prop
  | none => True
  | some (bh, oh) => W.heap[bh]? = some (gpuObj 1 (.slice (some ⟨oh, 0, none⟩) 1 1) (.slice none 0 0) 0 0 sw) ∧ W.heap[oh]? = some (.cells #[ptr bs] 31) ∧ bg < oh ∧ bg < bh
def phv : Option (Nat × Nat) → Value
  | none => .pointer none
  | some (bh, _) => ptr bh
def gpsOf (bg : Nat) : Option (Nat × Nat) → List Nat
  | none => [bg]
  | some (bh, _) => [bg, bh]
theorem Hf.one {W W' : World} {bs bg X : Nat} {sw : Bool} {hp : Option (Nat × Nat)} (h : Hf W bs bg sw hp) (o : One X W W') (hX : X ≤ bg ∨ (∃ cs e, W.heap[X]? = some (.cells cs e (0, 0)) ∧ e ≠ 63 ∧ e ≠ 31) ∨ W.heap.size ≤ X) : Hf W' bs bg sw hp := by
  cases hp with
  | none => trivial
  | some p =>
    obtain ⟨bh, oh⟩ := p
    obtain ⟨h1, h2, h3, h4⟩ := h
    refine ⟨o.heap h1 ?_, o.heap h2 ?_, h3, h4⟩
    · intro e
      subst e
      rcases hX with q | ⟨cs, e, q, q1, q2⟩ | q
      · omega
      · rw [h1] at q
        simp [gpuObj] at q
        exact q1 q.2.symm
      · have := (Array.getElem?_eq_some_iff.1 h1).1; omega
    · intro e
      subst e
      rcases hX with q | ⟨cs, e, q, q1, q2⟩ | q
      · omega
      · rw [h2] at q
        simp at q
        exact q2 q.2.symm
      · have := (Array.getElem?_eq_some_iff.1 h2).1; omega
/-- Behind s's slice of gpus. -/
structure S3 (w W : World) (N1 bs bt o0 o1 bg sgb cg : Nat) (C M : List Int) (sw ao : Bool) (gv tv : Value) (h0 h1 t0 t1 : Int) (hp : Option (Nat × Nat)) : Prop where
  d : Bd w W w.heap.size N1 bs bt (ptr bg) (phv hp) sw gv tv h0 h1 t0 t1
  g : Gp W w.heap.size bt o0 o1 bg (owners bs bt C) (owners bs bt M) (cf C) (cf M) sw
  sg : W.ownsRow w.heap.size 32 1 (.slice (some ⟨sgb, 0, none⟩) (gpsOf bg hp).length cg) (gpsOf bg hp).length ((gpsOf bg hp).map ptr)
  h : Hf W bs bg sw hp
  lt : bg < sgb
  a : hp.isSome = ao
theorem S3.setS {w W : World} {N1 bs bt o0 o1 bg sgb cg : Nat} {C M : List Int} {sw ao : Bool} {gv tv : Value} {h0 h1 t0 t1 : Int} {hp : Option (Nat × Nat)} (s : S3 w W N1 bs bt o0 o1 bg sgb cg C M sw ao gv tv h0 h1 t0 t1 hp) (x : Value) : S3 w (W.setCell ⟨bs, 1, none⟩ x) N1 bs bt o0 o1 bg sgb cg C M sw ao x tv h0 h1 t0 t1 hp := by
  have a := s.d.ord
  have b := s.g.ord
  have l := s.lt
  have o := One.setCell W bs 1 x
  exact ⟨s.d.setS x, s.g.one o (by omega), o.own s.sg (by omega), s.h.one o (.inl (by omega)), s.lt, s.a⟩
theorem S3.setT {w W : World} {N1 bs bt o0 o1 bg sgb cg : Nat} {C M : List Int} {sw ao : Bool} {gv tv : Value} {h0 h1 t0 t1 : Int} {hp : Option (Nat × Nat)} (s : S3 w W N1 bs bt o0 o1 bg sgb cg C M sw ao gv tv h0 h1 t0 t1 hp) (x : Value) : S3 w (W.setCell ⟨bt, 1, none⟩ x) N1 bs bt o0 o1 bg sgb cg C M sw ao gv x h0 h1 t0 t1 hp := by
  have a := s.d.ord
  have b := s.g.ord
  have l := s.lt
  have o := One.setCell W bt 1 x
  exact ⟨s.d.setT x, s.g.one o (by omega), o.own s.sg (by omega), s.h.one o (.inl (by omega)), s.lt, s.a⟩
/-- A block that came behind all these has turned, or a new one has come. -/
theorem S3.one {w W W' : World} {N1 bs bt o0 o1 bg sgb cg X : Nat} {C M : List Int} {sw ao : Bool} {gv tv : Value} {h0 h1 t0 t1 : Int} {hp : Option (Nat × Nat)} (s : S3 w W N1 bs bt o0 o1 bg sgb cg C M sw ao gv tv h0 h1 t0 t1 hp) (o : One X W W')
    (hX : bg < X) (hs : X ≠ sgb) (hh : (∃ cs e, W.heap[X]? = some (.cells cs e (0, 0)) ∧ e ≠ 63 ∧ e ≠ 31) ∨ W.heap.size ≤ X) : S3 w W' N1 bs bt o0 o1 bg sgb cg C M sw ao gv tv h0 h1 t0 t1 hp := by
  have b := s.g.ord
  exact ⟨s.d.one o (by omega), s.g.one o (by omega), o.own s.sg (Ne.symm hs), s.h.one o (.inr hh), s.lt, s.a⟩
theorem S3.alloc {w W : World} {N1 bs bt o0 o1 bg sgb cg : Nat} {C M : List Int} {sw ao : Bool} {gv tv : Value} {h0 h1 t0 t1 : Int} {hp : Option (Nat × Nat)} (s : S3 w W N1 bs bt o0 o1 bg sgb cg C M sw ao gv tv h0 h1 t0 t1 hp) (o : Obj) : S3 w (W.alloc o) N1 bs bt o0 o1 bg sgb cg C M sw ao gv tv h0 h1 t0 t1 hp :=
  s.one ((One.refl W.heap.size W).alloc o) (by have := s.g.ord; omega) (by have := own_lt s.sg; omega) (.inr (Nat.le_refl _))
def ndsOf (bs bt : Nat) (C M : List Int) : List Nat := if 0 < c2 C + c2 M then [bs, bt] else [bs]
def ohLt (gb : Nat) : Option (Nat × Nat) → Prop
  | none => True
  | some (_, oh) => oh < gb
theorem Hf.lt {W : World} {bs bg : Nat} {sw : Bool} {hp : Option (Nat × Nat)} (h : Hf W bs bg sw hp) {k : Nat} (hk : W.heap.size ≤ k) : ohLt k hp := by
  cases hp with
  | none => trivial
  | some p =>
    obtain ⟨bh, oh⟩ := p
    have := (Array.getElem?_eq_some_iff.1 h.2.1).1
    show oh < k
    omega
theorem ohLt.mono {hp : Option (Nat × Nat)} {k k' : Nat} (h : ohLt k hp) (hk : k ≤ k') : ohLt k' hp := by
  cases hp with
  | none => trivial
  | some p => obtain ⟨bh, oh⟩ := p; exact Nat.lt_of_lt_of_le h hk
/-- .. and the node's slice of grants. -/
structure S4 (w W : World) (N1 bs bt o0 o1 bg sgb cg gb cn : Nat) (C M : List Int) (sw ao : Bool) (gv tv : Value) (h0 h1 t0 t1 : Int) (hp : Option (Nat × Nat)) : Prop where
  s : S3 w W N1 bs bt o0 o1 bg sgb cg C M sw ao gv tv h0 h1 t0 t1 hp
  gr : W.ownsRow w.heap.size 31 1 (.slice (some ⟨gb, 0, none⟩) (ndsOf bs bt C M).length cn) (ndsOf bs bt C M).length ((ndsOf bs bt C M).map ptr)
  lt : bg < gb
  lo : ohLt gb hp
theorem lit_own {w : World} {b e : Nat} {v : Value} (h : w.heap[b]? = some (.cells #[v] e)) : w.ownsRow b e 1 (.slice (some ⟨b, 0, none⟩) 1 1) 1 [v] :=
  ⟨rfl, .inr ⟨b, 1, #[v], rfl, Nat.le_refl _, h, Nat.le_refl _, by unfold maxLen; omega, rfl, rfl⟩⟩
/-- What stands where the second gpu is laid. -/
theorem buildH (w wc : World) (N1 bs bt o0 o1 bg : Nat) (C M : List Int) (sw : Bool) (h0 h1 t0 t1 : Int) (D : Bd w wc w.heap.size N1 bs bt (ptr bg) (.pointer none) sw (.slice none 0 0) (.slice none 0 0) h0 h1 t0 t1) (G : Gp wc w.heap.size bt o0 o1 bg (owners bs bt C) (owners bs bt M) (cf C) (cf M) sw) (w1 : World)
    (hw1 : w1 = ((wc.alloc (.cells #[.pointer (some ⟨bg, 0, none⟩)] 32)).alloc (.cells #[.pointer (some ⟨bs, 0, none⟩)] 31)).alloc (gpuObj 1 (.slice (some ⟨wc.heap.size + 1, 0, none⟩) 1 1) (.slice none 0 0) 0 0 sw)) :
    w1.cell? ⟨N1, 4, none⟩ = some (.pointer none) ∧ w1.frozen? ⟨N1, 4, none⟩ = false ∧ N1 < w1.heap.size ∧
    Hid (w1.heap.size = wc.heap.size + 3 ∧ (∀ X, One X wc w1) ∧ w1.heap[wc.heap.size]? = some (.cells #[ptr bg] 32) ∧ w1.heap[wc.heap.size + 1]? = some (.cells #[ptr bs] 31) ∧ w1.heap[wc.heap.size + 1 + 1]? = some (gpuObj 1 (.slice (some ⟨wc.heap.size + 1, 0, none⟩) 1 1) (.slice none 0 0) 0 0 sw)) ∧
    Hid (∀ v' w', w'.ownsRow wc.heap.size 32 1 v' 2 [ptr bg, ptr (wc.heap.size + 1 + 1)] → ((w1.setCell ⟨N1, 4, none⟩ (ptr (wc.heap.size + 1 + 1))).alloc (.cells #[ptr (wc.heap.size + 1 + 1)] 32)).grownBy w' (some wc.heap.size) →
      ∃ sgb cg, v' = .slice (some ⟨sgb, 0, none⟩) 2 cg ∧ Hid (S3 w w' N1 bs bt o0 o1 bg sgb cg C M sw true (.slice none 0 0) (.slice none 0 0) h0 h1 t0 t1 (some (wc.heap.size + 1 + 1, wc.heap.size + 1)))) := by
  have oo : ∀ X, One X wc w1 := fun X => by subst hw1; exact (((One.refl X wc).alloc _).alloc _).alloc _
  have o := D.ord
  have s1 := (oo (N1 + 1)).heap D.st (by omega)
  have hs : w1.heap.size = wc.heap.size + 3 := by subst hw1; simp
  have k1 : w1.heap[wc.heap.size]? = some (.cells #[ptr bg] 32) := by
    subst hw1
    rw [Below.heap_alloc _ _ _ (by simp <;> omega), Below.heap_alloc _ _ _ (by simp)]
    exact heap_at _ _ _ rfl
  have k2 : w1.heap[wc.heap.size + 1]? = some (.cells #[ptr bs] 31) := by
    subst hw1
    rw [Below.heap_alloc _ _ _ (by simp)]
    exact heap_at _ _ _ (by simp)
  have k3 : w1.heap[wc.heap.size + 1 + 1]? = some (gpuObj 1 (.slice (some ⟨wc.heap.size + 1, 0, none⟩) 1 1) (.slice none 0 0) 0 0 sw) := by
    subst hw1
    exact heap_at _ _ _ (by simp)
  refine ⟨(st_cell s1).2.2.2.2, st_frozen s1 4, by omega, ⟨hs, oo, k1, k2, k3⟩, ?_⟩
  clear hw1
  intro v' w' ho hg
  have o2 := (One.setCell w1 N1 4 (ptr (wc.heap.size + 1 + 1))).alloc (.cells #[ptr (wc.heap.size + 1 + 1)] 32)
  have o3 := One.grown hg
  have og := G.ord
  obtain ⟨sgb, cg, rfl, hge⟩ : ∃ g c, v' = .slice (some ⟨g, 0, none⟩) 2 c ∧ wc.heap.size ≤ g := by
    rcases ho.2 with ⟨_, h0⟩ | ⟨g, cap, cur, rfl, hb, _⟩
    · omega
    · exact ⟨g, cap, rfl, hb⟩
  have D2 : Bd w ((w1.setCell ⟨N1, 4, none⟩ (ptr (wc.heap.size + 1 + 1))).alloc (.cells #[ptr (wc.heap.size + 1 + 1)] 32)) w.heap.size N1 bs bt (ptr bg) (ptr (wc.heap.size + 1 + 1)) sw (.slice none 0 0) (.slice none 0 0) h0 h1 t0 t1 :=
    ((D.one (oo wc.heap.size) (by omega)).setH _).one ((One.refl w1.heap.size _).alloc _) (by omega)
  refine ⟨sgb, cg, rfl, ⟨D2.one o3 (by omega), ((G.one (oo wc.heap.size) (by omega)).one o2 (by omega)).one o3 (by omega), base_mono ho (by omega), ⟨o3.heap (o2.heap k3 (by omega)) (by omega), o3.heap (o2.heap k2 (by omega)) (by omega), by omega, by omega⟩, by omega, rfl⟩⟩
/-- The three calls of the region that builds g. -/
theorem build9 (a0 a1 : Option Addr) (k0 k1 : Nat) (C M : List Int) (w W : World) (N1 bs bt : Nat) (sw : Bool) (h0 h1 t0 t1 : Int) (hC : C.length ≤ 1048576) (hM : M.length ≤ 1048576) (rC : Rd w.heap.size w .u8 a0 C) (rM : Rd w.heap.size w .u8 a1 M)
    (D : Bd w W w.heap.size N1 bs bt (.pointer none) (.pointer none) sw (.slice none 0 0) (.slice none 0 0) h0 h1 t0 t1) :
    Hid (Calls Tryd.prog 21 #[.slice a0 C.length k0, .pointer (some ⟨bs, 0, none⟩), .pointer (some ⟨bt, 0, none⟩)] W.drew fun e w1 => e = .returned (.slice (some ⟨W.heap.size, 0, none⟩) C.length C.length) ∧
      Hid (w1.ownsRow W.heap.size 31 1 (.slice (some ⟨W.heap.size, 0, none⟩) C.length C.length) C.length ((owners bs bt C).map pv) ∧ W.grownBy w1 none) ∧ w1.cell? ⟨N1, 1, none⟩ = some (.pointer (some ⟨bs, 0, none⟩)) ∧ w1.cell? ⟨N1, 2, none⟩ = some (.pointer (some ⟨bt, 0, none⟩))) ∧
    Hid (∀ w1, Hid (w1.ownsRow W.heap.size 31 1 (.slice (some ⟨W.heap.size, 0, none⟩) C.length C.length) C.length ((owners bs bt C).map pv) ∧ W.grownBy w1 none) →
      Calls Tryd.prog 21 #[.slice a1 M.length k1, .pointer (some ⟨bs, 0, none⟩), .pointer (some ⟨bt, 0, none⟩)] w1 fun e w2 => e = .returned (.slice (some ⟨w1.heap.size, 0, none⟩) M.length M.length) ∧
      Hid (w2.ownsRow w1.heap.size 31 1 (.slice (some ⟨w1.heap.size, 0, none⟩) M.length M.length) M.length ((owners bs bt M).map pv) ∧ w1.grownBy w2 none) ∧ w2.cell? ⟨N1, 1, none⟩ = some (.pointer (some ⟨bs, 0, none⟩)) ∧ w2.cell? ⟨N1, 2, none⟩ = some (.pointer (some ⟨bt, 0, none⟩))) ∧
    Hid (∀ w1 w2, Hid (w1.ownsRow W.heap.size 31 1 (.slice (some ⟨W.heap.size, 0, none⟩) C.length C.length) C.length ((owners bs bt C).map pv) ∧ W.grownBy w1 none) →
      Hid (w2.ownsRow w1.heap.size 31 1 (.slice (some ⟨w1.heap.size, 0, none⟩) M.length M.length) M.length ((owners bs bt M).map pv) ∧ w1.grownBy w2 none) →
      Calls Tryd.prog 20 #[.int .i64 0, .slice (some ⟨W.heap.size, 0, none⟩) C.length C.length, .slice (some ⟨w1.heap.size, 0, none⟩) M.length M.length, .int .i64 (cf C), .int .i64 (cf M), .bool sw] w2 fun e w3 => e = .returned (.pointer (some ⟨w2.heap.size, 0, none⟩)) ∧
      Hid (Bd w w3 w.heap.size N1 bs bt (.pointer none) (.pointer none) sw (.slice none 0 0) (.slice none 0 0) h0 h1 t0 t1 ∧ Gp w3 w.heap.size bt W.heap.size w1.heap.size w2.heap.size (owners bs bt C) (owners bs bt M) (cf C) (cf M) sw) ∧
      w3.cell? ⟨N1, 1, none⟩ = some (.pointer (some ⟨bs, 0, none⟩)) ∧ w3.cell? ⟨N1, 2, none⟩ = some (.pointer (some ⟨bt, 0, none⟩)) ∧ w3.cell? ⟨N1, 3, none⟩ = some (.pointer none) ∧ w3.frozen? ⟨N1, 3, none⟩ = false) := by
  have o := D.ord
  have one1 : ∀ {w1 : World}, W.grownBy w1 none → One W.heap.size W w1 := fun h => ⟨h.os, h.tape, h.output, h.size, fun k hk _ => h.block k hk (by simp)⟩
  have one2 : ∀ {w1 w2 : World}, w1.grownBy w2 none → One w1.heap.size w1 w2 := fun h => ⟨h.os, h.tape, h.output, h.size, fun k hk _ => h.block k hk (by simp)⟩
  refine ⟨?_, ?_, ?_⟩
  · refine (z21 a0 k0 bs bt C W.drew hC ((rC.below D.b).below (Below.refl _ _).drew) (by show w.heap.size ≤ W.heap.size; omega)).mono ?_
    rintro e w1 ⟨rfl, ho, hg⟩
    have hg' : W.grownBy w1 none := ⟨hg.os, hg.tape, hg.output, hg.size, hg.block⟩
    have D1 := D.one (one1 hg') (by omega)
    exact ⟨rfl, ⟨ho, hg'⟩, (st_cell D1.st).2.1, (st_cell D1.st).2.2.1⟩
  · intro w1 H1
    have D1 := D.one (one1 H1.out.2) (by omega)
    refine (z21 a1 k1 bs bt M w1 hM (rM.below D1.b) (by have := D1.ord; omega)).mono ?_
    rintro e w2 ⟨rfl, ho, hg⟩
    have D2 := D1.one (one2 hg) (by have := D1.ord; omega)
    exact ⟨rfl, ⟨ho, hg⟩, (st_cell D2.st).2.1, (st_cell D2.st).2.2.1⟩
  · intro w1 w2 H1 H2
    have D1 := D.one (one1 H1.out.2) (by omega)
    have D2 := D1.one (one2 H2.out.2) (by have := D1.ord; omega)
    refine (z20 0 (cf C) (cf M) _ _ _ _ _ _ sw w2).mono ?_
    rintro e w3 ⟨rfl, rfl⟩
    have a1 := (One.refl w2.heap.size w2).alloc (gpuObj 0 (.slice (some ⟨W.heap.size, 0, none⟩) C.length C.length) (.slice (some ⟨w1.heap.size, 0, none⟩) M.length M.length) (cf C) (cf M) sw)
    have D3 := D2.one a1 (by have := D2.ord; omega)
    have l0 := own_lt H1.out.1
    have l1 := own_lt H2.out.1
    have hsz := H2.out.2.size
    refine ⟨rfl, ⟨D3, ?_, ?_, ?_, ?_⟩, (st_cell D3.st).2.1, (st_cell D3.st).2.2.1, (st_cell D3.st).2.2.2.1, st_frozen D3.st 3⟩
    · rw [owners_length]
      exact (base_mono (a1.own ((one2 H2.out.2).own H1.out.1 (by omega)) (by omega)) (by omega))
    · rw [owners_length]
      exact (base_mono (a1.own H2.out.1 (by omega)) (by have := D1.ord; omega))
    · rw [owners_length, owners_length]
      exact heap_alloc_new _ _
    · simp only [World.size_alloc]
      omega

/-- What tbBuild leaves. -/
structure Built (w w' : World) (L : Bk) (A : Ab) (bt : Nat) (hp : Option (Nat × Nat)) (C M : List Int) (sw ao : Bool) : Prop where
  T : Tb w' L A
  eA : A = ⟨sw, gpsOf L.bg hp, A.cg, (c1 C : Int) + (if ao then 1 else 0), c1 M, owners L.bs bt C, owners L.bs bt M, cf C, cf M, sw, ndsOf L.bs bt C M, A.cn⟩
  t : ∃ tv, w'.heap[bt]? = some (grantObj false tv (c2 C) (c2 M))
  tb : L.bs < bt
  h : Hf w' L.bs L.bg sw hp
  ord : L.o0 < L.bg ∧ L.o1 < L.bg ∧ ohLt L.gb hp
  a : hp.isSome = ao
  b : Below w.heap.size w w'
  B : L.B = w.heap.size
def BPost (C M : List Int) (sw ao : Bool) (w : World) (e : Ending) (w' : World) : Prop := ∃ L A bt hp, e = .returned (.agg #[ptr L.bn, ptr L.bs, ptr bt, ptr L.bg, phv hp]) ∧ Built w w' L A bt hp C M sw ao
theorem owners_mem {s t b : Nat} {l : List Int} (h : some b ∈ owners s t l) : b = s ∨ b = t := by
  obtain ⟨c, _, hc⟩ := List.mem_map.1 h
  unfold code at hc
  split at hc
  · cases hc; exact .inl rfl
  · split at hc
    · cases hc; exact .inr rfl
    · cases hc
theorem own_obj {w : World} {b base e n c : Nat} {xs : List Value} (ho : w.ownsRow base e 1 (.slice (some ⟨b, 0, none⟩) n c) n xs) : ∃ cur, w.heap[b]? = some (.cells cur e (0, 0)) := by
  rcases ho.2 with ⟨h, _⟩ | ⟨g, cap, cur, hv, hb, hgg, rest⟩
  · simp at h
  · simp only [Value.slice.injEq, Option.some.injEq, Addr.mk.injEq, and_true, true_and] at hv
    obtain ⟨rfl, rfl⟩ := hv
    exact ⟨_, hgg⟩
theorem sc (w : World) (b o : Nat) (v : Value) (k : Nat) (h : k ≠ b) : (w.setCell ⟨b, o, none⟩ v).heap[k]? = w.heap[k]? := Below.heap_setCell w ⟨b, o, none⟩ v k h
theorem scs (w : World) (a : Addr) (v : Value) : (w.setCell a v).os = w.os ∧ (w.setCell a v).tape = w.tape ∧ (w.setCell a v).output = w.output ∧ (w.setCell a v).heap.size = w.heap.size := ⟨rfl, rfl, rfl, by simp [World.setCell]⟩
theorem six (w : World) (N0 N1 : Nat) (a b c d e f : Value) :
    (∀ k, k ≠ N0 → k ≠ N1 → ((((((w.setCell ⟨N1, 0, none⟩ a).setCell ⟨N0, 0, none⟩ b).setCell ⟨N0, 1, none⟩ c).setCell ⟨N0, 2, none⟩ d).setCell ⟨N0, 3, none⟩ e).setCell ⟨N0, 4, none⟩ f).heap[k]? = w.heap[k]?) ∧
    ((((((w.setCell ⟨N1, 0, none⟩ a).setCell ⟨N0, 0, none⟩ b).setCell ⟨N0, 1, none⟩ c).setCell ⟨N0, 2, none⟩ d).setCell ⟨N0, 3, none⟩ e).setCell ⟨N0, 4, none⟩ f).os = w.os ∧
    ((((((w.setCell ⟨N1, 0, none⟩ a).setCell ⟨N0, 0, none⟩ b).setCell ⟨N0, 1, none⟩ c).setCell ⟨N0, 2, none⟩ d).setCell ⟨N0, 3, none⟩ e).setCell ⟨N0, 4, none⟩ f).tape = w.tape ∧
    ((((((w.setCell ⟨N1, 0, none⟩ a).setCell ⟨N0, 0, none⟩ b).setCell ⟨N0, 1, none⟩ c).setCell ⟨N0, 2, none⟩ d).setCell ⟨N0, 3, none⟩ e).setCell ⟨N0, 4, none⟩ f).output = w.output ∧
    ((((((w.setCell ⟨N1, 0, none⟩ a).setCell ⟨N0, 0, none⟩ b).setCell ⟨N0, 1, none⟩ c).setCell ⟨N0, 2, none⟩ d).setCell ⟨N0, 3, none⟩ e).setCell ⟨N0, 4, none⟩ f).heap.size = w.heap.size := by
  refine ⟨fun k q1 q2 => ?_, ?_, ?_, ?_, ?_⟩
  · rw [sc _ _ _ _ k q1, sc _ _ _ _ k q1, sc _ _ _ _ k q1, sc _ _ _ _ k q1, sc _ _ _ _ k q1, sc _ _ _ _ k q2]
  · rw [(scs _ _ _).1, (scs _ _ _).1, (scs _ _ _).1, (scs _ _ _).1, (scs _ _ _).1, (scs _ _ _).1]
  · rw [(scs _ _ _).2.1, (scs _ _ _).2.1, (scs _ _ _).2.1, (scs _ _ _).2.1, (scs _ _ _).2.1, (scs _ _ _).2.1]
  · rw [(scs _ _ _).2.2.1, (scs _ _ _).2.2.1, (scs _ _ _).2.2.1, (scs _ _ _).2.2.1, (scs _ _ _).2.2.1, (scs _ _ _).2.2.1]
  · rw [(scs _ _ _).2.2.2, (scs _ _ _).2.2.2, (scs _ _ _).2.2.2, (scs _ _ _).2.2.2, (scs _ _ _).2.2.2, (scs _ _ _).2.2.2]
/-- The node is laid; then only the two blocks of the struct are written. -/
theorem built {w W w1 w' : World} {N1 bs bt o0 o1 bg sgb cg gb cn : Nat} {C M : List Int} {sw ao : Bool} {tv : Value} {ex : Int} {hp : Option (Nat × Nat)} (hC : C.length ≤ 1048576) (hM : M.length ≤ 1048576)
    (hv : w.cell? ⟨0, 0, none⟩ = some (.int .i64 0) ∧ w.cell? ⟨0, 1, none⟩ = some (.int .i64 1)) (hex : ex = if ao then 1 else 0)
    (s : S4 w W N1 bs bt o0 o1 bg sgb cg gb cn C M sw ao (.slice (some ⟨sgb, 0, none⟩) (gpsOf bg hp).length cg) tv ((c1 C : Int) + ex) (c1 M) (c2 C) (c2 M) hp)
    (hw1 : w1 = (W.alloc (.chan 0 #[] false 0 0 false)).alloc (nodeObj (.slice (some ⟨gb, 0, none⟩) (ndsOf bs bt C M).length cn) (.chan (some W.heap.size))))
    (hk : ∀ k, k ≠ w.heap.size → k ≠ N1 → w'.heap[k]? = w1.heap[k]?) (hos : w'.os = w1.os) (htp : w'.tape = w1.tape) (hou : w'.output = w1.output) (hsz : w'.heap.size = w1.heap.size) :
    ∃ A, Built w w' ⟨bs, bg, W.heap.size + 1, o0, o1, sgb, gb, W.heap.size, w.heap.size, bs :: bt :: gpsOf bg hp⟩ A bt hp C M sw ao := by
  have a := s.s.d.ord
  have b := s.s.g.ord
  have l1 := s.s.lt
  have l2 := s.lt
  have g1 := own_lt s.s.sg
  have g2 := own_lt s.gr
  have keep : ∀ {k : Nat}, k ≠ w.heap.size → k ≠ N1 → k < W.heap.size → w'.heap[k]? = W.heap[k]? := by
    intro k q1 q2 q3
    rw [hk k q1 q2, hw1, Below.heap_alloc _ _ _ (by simp; omega), Below.heap_alloc _ _ _ q3]
  have kobj : ∀ {k : Nat} {o : Obj}, bs ≤ k → W.heap[k]? = some o → w'.heap[k]? = some o := fun {k o} q h => by
    rw [keep (by omega) (by omega) (Array.getElem?_eq_some_iff.1 h).1]; exact h
  have kown : ∀ {k base e n c : Nat} {xs : List Value}, bs ≤ k → W.ownsRow base e 1 (.slice (some ⟨k, 0, none⟩) n c) n xs → w'.ownsRow base e 1 (.slice (some ⟨k, 0, none⟩) n c) n xs := fun {k base e n c xs} q h => by
    refine ⟨h.1, ?_⟩
    rcases h.2 with h | ⟨g, cap, cur, hv, hb, hgg, r⟩
    · exact .inl h
    · simp only [Value.slice.injEq, Option.some.injEq, Addr.mk.injEq, and_true, true_and] at hv
      obtain ⟨rfl, rfl⟩ := hv
      exact .inr ⟨_, _, cur, rfl, hb, kobj q hgg, r⟩
  have hne : sgb ≠ gb := by
    intro e
    obtain ⟨c1, q1⟩ := own_obj s.s.sg
    obtain ⟨c2, q2⟩ := own_obj s.gr
    rw [e, q2] at q1
    simp at q1
  have hch : w'.heap[W.heap.size]? = some (.chan 0 #[] false 0 0 false) := by
    rw [hk _ (by omega) (by omega), hw1, Below.heap_alloc _ _ _ (by simp)]; exact heap_at _ _ _ rfl
  have hnode : w'.heap[W.heap.size + 1]? = some (nodeObj (.slice (some ⟨gb, 0, none⟩) (ndsOf bs bt C M).length cn) (.chan (some W.heap.size))) := by
    rw [hk _ (by omega) (by omega), hw1]; exact heap_at _ _ _ (by simp)
  have hbel : Below w.heap.size w w' := by
    refine s.s.d.b.trans ⟨by rw [hos, hw1]; rfl, by rw [htp, hw1]; rfl, by rw [hou, hw1]; rfl, by rw [hsz, hw1]; simp; omega, fun k hk' => keep (by omega) (by omega) (by omega)⟩
  have hthg : ∀ x ∈ gpsOf bg hp, isCells w' x := by
    intro x hx
    have hh := s.s.h
    cases hp with
    | none => simp [gpsOf] at hx; subst hx; exact ⟨_, _, kobj (by omega) s.s.g.g⟩
    | some p =>
      obtain ⟨bh, oh⟩ := p
      simp [gpsOf] at hx
      rcases hx with rfl | rfl
      · exact ⟨_, _, kobj (by omega) s.s.g.g⟩
      · exact ⟨_, _, kobj (by have := hh.2.2.2; omega) hh.1⟩
  have hgl : (gpsOf bg hp).length ≤ 2 := by cases hp <;> simp [gpsOf]
  have hnl : (ndsOf bs bt C M).length ≤ 2 := by unfold ndsOf; split <;> simp
  refine ⟨⟨sw, gpsOf bg hp, cg, (c1 C : Int) + ex, c1 M, owners bs bt C, owners bs bt M, cf C, cf M, sw, ndsOf bs bt C M, cn⟩, ?_⟩
  have qg : bs ≤ bg := by omega
  have q0 : bs ≤ o0 := by omega
  have q1 : bs ≤ o1 := by omega
  have qs : bs ≤ sgb := by omega
  have qr : bs ≤ gb := by omega
  have qt : bs ≤ bt := by omega
  have qx : o0 < bg ∧ o1 < bg := by omega
  refine ⟨⟨kobj (Nat.le_refl _) s.s.d.s, kobj qg s.s.g.g, hnode, kown q0 s.s.g.r0, kown q1 s.s.g.r1, kown qs s.s.sg, kown qr s.gr, hch,
    ⟨(hbel.cell (by show 0 < w.heap.size; exact World.block_lt_of_cell? w _ hv.1)).trans hv.1, (hbel.cell (by show 0 < w.heap.size; exact World.block_lt_of_cell? w _ hv.1)).trans hv.2⟩, ?_, ?_, ?_, ?_, ?_, ?_, ?_, ?_, ?_⟩, ?_, ⟨tv, kobj qt s.s.d.t⟩, a.2.2.2.1, ?_, ⟨qx.1, qx.2, s.lo⟩, s.s.a, hbel, rfl⟩
  · intro x hx
    rcases List.mem_cons.1 hx with rfl | hx
    · exact ⟨_, _, kobj (Nat.le_refl _) s.s.d.s⟩
    · rcases List.mem_cons.1 hx with rfl | hx
      · exact ⟨_, _, kobj (by omega) s.s.d.t⟩
      · exact hthg x hx
  · intro x hx
    rcases owners_mem hx with rfl | rfl <;> simp
  · intro x hx
    rcases owners_mem hx with rfl | rfl <;> simp
  · intro x hx
    exact List.mem_cons_of_mem _ (List.mem_cons_of_mem _ hx)
  · intro x hx
    have hx' : x ∈ ndsOf bs bt C M := hx
    unfold ndsOf at hx'
    split at hx' <;> simp at hx' <;> rcases hx' with rfl | rfl <;> simp
  · simp
  · have e1 : bs ≠ bg ∧ bs ≠ W.heap.size + 1 ∧ bs ≠ o0 ∧ bs ≠ o1 ∧ bs ≠ sgb ∧ bs ≠ gb ∧ bs ≠ W.heap.size := by omega
    have e2 : bg ≠ W.heap.size + 1 ∧ bg ≠ o0 ∧ bg ≠ o1 ∧ bg ≠ sgb ∧ bg ≠ gb ∧ bg ≠ W.heap.size := by omega
    have e3 : W.heap.size + 1 ≠ o0 ∧ W.heap.size + 1 ≠ o1 ∧ W.heap.size + 1 ≠ sgb ∧ W.heap.size + 1 ≠ gb ∧ W.heap.size + 1 ≠ W.heap.size := by omega
    have e4 : o0 ≠ o1 ∧ o0 ≠ sgb ∧ o0 ≠ gb ∧ o0 ≠ W.heap.size := by omega
    have e5 : o1 ≠ sgb ∧ o1 ≠ gb ∧ o1 ≠ W.heap.size := by omega
    have e6 : sgb ≠ W.heap.size ∧ gb ≠ W.heap.size := by omega
    simp only [List.nodup_cons, List.mem_cons, List.not_mem_nil, or_false, not_or, List.nodup_nil, not_false_eq_true, and_true]
    exact ⟨e1, e2, e3, e4, e5, ⟨hne, e6.1⟩, e6.2⟩
  · show 0 < w.heap.size ∧ _
    have := World.block_lt_of_cell? w _ hv.1
    simp only at this
    exact ⟨this, by show w.heap.size ≤ bs; omega, by show w.heap.size ≤ bg; omega, by show w.heap.size ≤ W.heap.size + 1; omega, by show w.heap.size ≤ o0; omega, by show w.heap.size ≤ o1; omega, by show w.heap.size ≤ sgb; omega, by show w.heap.size ≤ gb; omega, by show w.heap.size ≤ W.heap.size; omega⟩
  · refine ⟨?_, ?_, ?_, ?_⟩
    · show (owners bs bt C).length ≤ _
      rw [owners_length]; exact hC
    · show (owners bs bt M).length ≤ _
      rw [owners_length]; exact hM
    · show (gpsOf bg hp).length ≤ _
      omega
    · show (ndsOf bs bt C M).length ≤ _
      omega
  · rw [hex]
  · have hh := s.s.h
    cases hp with
    | none => trivial
    | some p =>
      obtain ⟨bh, oh⟩ := p
      exact ⟨kobj (by have := hh.2.2.2; omega) hh.1, kobj (by have := hh.2.2.1; omega) hh.2.1, hh.2.2⟩

set_option maxRecDepth 100000 in
set_option maxHeartbeats 2000000 in
theorem z8 (a0 a1 : Option Addr) (k0 k1 : Nat) (C M : List Int) (sw ao : Bool) (w : World) (hC : C.length ≤ 1048576) (hM : M.length ≤ 1048576) (rC : Rd w.heap.size w .u8 a0 C) (rM : Rd w.heap.size w .u8 a1 M)
    (hv : w.cell? ⟨0, 0, none⟩ = some (.int .i64 0) ∧ w.cell? ⟨0, 1, none⟩ = some (.int .i64 1)) :
    Calls Tryd.prog 8 #[.slice a0 C.length k0, .slice a1 M.length k1, .bool sw, .bool ao] w fun e w' => BPost C M sw ao w e w' := by
  have Hv : Hid (w.cell? ⟨0, 0, none⟩ = some (.int .i64 0) ∧ w.cell? ⟨0, 1, none⟩ = some (.int .i64 1)) := hv
  clear hv
  have HrC : Hid (Rd w.heap.size w .u8 a0 C) := rC
  have HrM : Hid (Rd w.heap.size w .u8 a1 M) := rM
  clear rC rM
  have q1 := c1_le C C.length
  have q2 := c1_le M M.length
  have q3 := c2_le C C.length
  have q4 := c2_le M M.length
  rw [List.take_length] at q1 q2 q3 q4
  go_enter Tryd.func8, Tryd.ntmps8
  go_wp2_with fail
  refine (z7 a0 k0 C _ hC (HrC.out.below ((Below.refl _ _).alloc (Nat.le_refl _) _))).mono ?_
  rintro e w' ⟨rfl, rfl⟩
  go_wp2_with fail
  refine (z7 a1 k1 M _ hM (HrM.out.below ((Below.refl _ _).alloc (Nat.le_refl _) _))).mono ?_
  rintro e w' ⟨rfl, rfl⟩
  obtain ⟨ex, hex⟩ : ∃ ex : Int, ex = if ao then 1 else 0 := ⟨_, rfl⟩
  have Hex : Hid (ex = if ao then 1 else 0) := hex
  have hex01 : 0 ≤ ex ∧ ex ≤ 1 := by rw [hex]; split <;> omega
  clear hex
  go_upto_if 31 with fail
  go_cut [15] from 19 to 31 (fun s15 wx => s15 = .int .i64 ex ∧ wx = w.alloc (.cells #[.pointer none, .pointer none, .pointer none, .pointer none, .pointer none] 34))
  case first =>
    cases ao
    · go_wp2_with fail
      go_meet
      case rel => exact ⟨by rw [Hex.out]; rfl, rfl⟩
    · go_wp2_with fail
      go_meet
      case rel => exact ⟨by rw [Hex.out]; rfl, rfl⟩
  case rest =>
    obtain ⟨rfl, rfl⟩ := hcut
    go_upto_region 9 with (first | (go_at_call 19; refine (z19 _ _ _ _).mono ?_; rintro e w1 ⟨rfl, rfl⟩))
    have HD : Hid (Bd w ((((w.alloc (.cells #[.pointer none, .pointer none, .pointer none, .pointer none, .pointer none] 34)).alloc (.cells #[.pointer none, .pointer (some ⟨w.heap.size + 1 + 1, 0, none⟩), .pointer (some ⟨w.heap.size + 1 + 1 + 1, 0, none⟩), .pointer none, .pointer none] 34)).alloc
        (grantObj sw (.slice none 0 0) ((c1 C : Int) + ex) (c1 M))).alloc (grantObj false (.slice none 0 0) (c2 C) (c2 M))) w.heap.size (w.heap.size + 1) (w.heap.size + 1 + 1) (w.heap.size + 1 + 1 + 1) (.pointer none) (.pointer none) sw (.slice none 0 0) (.slice none 0 0) ((c1 C : Int) + ex) (c1 M) (c2 C) (c2 M)) := by
      refine ⟨?_, ?_, ?_, ?_, ((((Below.refl _ _).alloc (Nat.le_refl _) _).alloc (by simp) _).alloc (by simp <;> omega) _).alloc (by simp <;> omega) _, by simp⟩
      · rw [Below.heap_alloc _ _ _ (by simp <;> omega), Below.heap_alloc _ _ _ (by simp <;> omega), Below.heap_alloc _ _ _ (by simp)]; exact heap_at _ _ _ (by simp)
      · rw [Below.heap_alloc _ _ _ (by simp <;> omega), Below.heap_alloc _ _ _ (by simp)]; exact heap_at _ _ _ (by simp)
      · rw [Below.heap_alloc _ _ _ (by simp)]; exact heap_at _ _ _ (by simp)
      · exact heap_at _ _ _ (by simp)
    generalize ((((w.alloc (.cells #[.pointer none, .pointer none, .pointer none, .pointer none, .pointer none] 34)).alloc (.cells #[.pointer none, .pointer (some ⟨w.heap.size + 1 + 1, 0, none⟩), .pointer (some ⟨w.heap.size + 1 + 1 + 1, 0, none⟩), .pointer none, .pointer none] 34)).alloc
        (grantObj sw (.slice none 0 0) ((c1 C : Int) + ex) (c1 M))).alloc (grantObj false (.slice none 0 0) (c2 C) (c2 M))) = W at HD ⊢
    generalize w.heap.size + 1 + 1 + 1 = bt at HD ⊢
    generalize w.heap.size + 1 + 1 = bs at HD ⊢
    generalize w.heap.size + 1 = N1 at HD ⊢
    go_cut [] from 19 to 59 (fun wx => ∃ o0 o1 bg, Hid (Bd w wx w.heap.size N1 bs bt (ptr bg) (.pointer none) sw (.slice none 0 0) (.slice none 0 0) ((c1 C : Int) + ex) (c1 M) (c2 C) (c2 M) ∧ Gp wx w.heap.size bt o0 o1 bg (owners bs bt C) (owners bs bt M) (cf C) (cf M) sw))
    case first =>
      have d1 := (st_cell HD.out.st).2.1
      have d2 := (st_cell HD.out.st).2.2.1
      have Hd3 : Hid _ := (st_cell HD.out.st).2.2.2.1
      have Hf3 : Hid _ := st_frozen HD.out.st 3
      have HP := build9 a0 a1 k0 k1 C M w W N1 bs bt sw (c1 C + ex) (c1 M) (c2 C) (c2 M) hC hM HrC.out HrM.out HD.out
      have HR : Hid (∀ w3 o0 o1 bg, Hid (Bd w w3 w.heap.size N1 bs bt (.pointer none) (.pointer none) sw (.slice none 0 0) (.slice none 0 0) ((c1 C : Int) + ex) (c1 M) (c2 C) (c2 M) ∧ Gp w3 w.heap.size bt o0 o1 bg (owners bs bt C) (owners bs bt M) (cf C) (cf M) sw) →
          ∃ o0 o1 bg', Hid (Bd w (w3.setCell ⟨N1, 3, none⟩ (ptr bg)) w.heap.size N1 bs bt (ptr bg') (.pointer none) sw (.slice none 0 0) (.slice none 0 0) ((c1 C : Int) + ex) (c1 M) (c2 C) (c2 M) ∧ Gp (w3.setCell ⟨N1, 3, none⟩ (ptr bg)) w.heap.size bt o0 o1 bg' (owners bs bt C) (owners bs bt M) (cf C) (cf M) sw)) := by
        intro w3 o0 o1 bg h
        have := h.out.1.ord
        have := h.out.2.ord
        exact ⟨o0, o1, bg, h.out.1.setG _, h.out.2.one (One.setCell w3 N1 3 _) (by omega)⟩
      clear HD
      simp only [ptr] at d1 d2
      go_region_held3 (fun w' => w'.cell? ⟨N1, 1, none⟩ = some (.pointer (some ⟨bs, 0, none⟩)) ∧ w'.cell? ⟨N1, 2, none⟩ = some (.pointer (some ⟨bt, 0, none⟩))) ((first | exact ⟨d1, d2⟩ | exact ⟨by assumption, by assumption⟩ | (simp [*, go_sem]; done)))
        (first
          | (go_at_call_of 21 (Value.slice a0 C.length k0); refine HP.1.out.mono ?_; rintro e w1 ⟨rfl, H1, e1, e2⟩)
          | (go_at_call_of 21 (Value.slice a1 M.length k1); refine (HP.2.1.out _ H1).mono ?_; rintro e w2 ⟨rfl, H2, e3, e4⟩)
          | (go_at_call 20; refine (HP.2.2.out _ _ H1 H2).mono ?_; rintro e w3 ⟨rfl, H3, e5, e6, e7, e8⟩))
      go_wp2_with fail
      go_meet
      case rel => exact HR.out _ _ _ _ H3
    case rest =>
      obtain ⟨o0, o1, bg, hcut⟩ := hcut
      clear HD HrC HrM
      have d3 := (st_cell hcut.out.1.st).2.2.2.1
      have d1 := (st_cell hcut.out.1.st).2.1
      simp only [ptr] at d1 d3
      have hord := hcut.out.1.ord
      have hord2 := hcut.out.2.ord
      go_upto_if 63 with fail
      go_cut [17] from 19 to 74 (fun s17 wx => ∃ hp sgb cg, s17 = .slice (some ⟨sgb, 0, none⟩) (gpsOf bg hp).length cg ∧ Hid (S3 w wx N1 bs bt o0 o1 bg sgb cg C M sw ao (.slice none 0 0) (.slice none 0 0) ((c1 C : Int) + ex) (c1 M) (c2 C) (c2 M) hp))
      case first =>
        cases ao
        · have HR : Hid (S3 w (wc.alloc (.cells #[ptr bg] 32)) N1 bs bt o0 o1 bg wc.heap.size 1 C M sw false (.slice none 0 0) (.slice none 0 0) ((c1 C : Int) + ex) (c1 M) (c2 C) (c2 M) none) := by
            have a := (One.refl wc.heap.size wc).alloc (.cells #[ptr bg] 32)
            exact ⟨hcut.out.1.one a (by omega), hcut.out.2.one a (by omega), World.ownsRow_lit wc #[ptr bg] 1 (by omega) (by unfold maxLen; omega) rfl, trivial, by omega, rfl⟩
          go_wp2_with fail
          go_meet
          case rel => exact ⟨none, wc.heap.size, 1, rfl, HR⟩
        · have d4 := (st_cell hcut.out.1.st).2.2.2.2
          have f4 := st_frozen hcut.out.1.st 4
          have hN1 : N1 < wc.heap.size := by omega
          obtain ⟨i0, hi, hz0, hz1, hz2⟩ := info_parts info32
          have HP := buildH w wc N1 bs bt o0 o1 bg C M sw ((c1 C : Int) + ex) (c1 M) (c2 C) (c2 M) hcut.out.1 hcut.out.2
          clear hcut
          go_wp2_with fail
          refine (z20 _ _ _ _ _ _ _ _ _ _ _).mono ?_
          rintro e w1 ⟨rfl, hw1⟩
          obtain ⟨s1, s2, s3, HP, HQ⟩ := HP w1 hw1
          clear hw1 d1 d3 d4 f4
          go_wp2_with (at_builtin; (refine wpList_append_own _ rfl _ _ 40 rfl (wc.heap.size) 32 i0 (.pointer none) 1 8 Tryd.underlying40 hi hz0 hz1 hz2 rfl (by decide) (.slice (some ⟨wc.heap.size, 0, none⟩) 1 1) 1 [ptr bg] rfl ?c0 ⟨w1.heap.size, 0, none⟩ 1 1 [ptr (wc.heap.size + 1 + 1)] rfl rfl ?c1 ?c2 ?c3 ?c4 ?c5 ?_))
          case c0 => exact lit_own (((One.setCell w1 N1 4 _).alloc _).heap HP.out.2.2.1 (by omega))
          case c1 =>
            intro j u hj
            match j, hj with
            | 0, hj => simp at hj; subst hj; simp [Addr.add, ptr, World.cell?_alloc_at, World.setCell]
          case c2 => intro u hu; simp at hu; subst hu; rfl
          case c3 => unfold maxLen; omega
          case c4 => omega
          case c5 => have := HP.out.1; simp [World.setCell]; omega
          intro v' w' hown' hgrow _
          obtain ⟨sgb, cg, hv', HS⟩ := HQ.out v' w' hown' hgrow
          clear hown' hgrow HP HQ
          subst hv'
          go_wp2_with fail
          go_meet
          case rel => exact ⟨some (wc.heap.size + 1 + 1, wc.heap.size + 1), sgb, cg, rfl, HS⟩
      case rest =>
        obtain ⟨hp, sgb, cg, rfl, hcut⟩ := hcut
        have d1 := (st_cell hcut.out.d.st).2.1
        have e1 := (grant_cell hcut.out.d.s).2.1
        have e1f := grant_frozen hcut.out.d.s 1
        simp only [ptr] at d1
        have HS : Hid (S3 w (wc.setCell ⟨bs, 1, none⟩ (.slice (some ⟨sgb, 0, none⟩) (gpsOf bg hp).length cg)) N1 bs bt o0 o1 bg sgb cg C M sw ao (.slice (some ⟨sgb, 0, none⟩) (gpsOf bg hp).length cg) (.slice none 0 0) ((c1 C : Int) + ex) (c1 M) (c2 C) (c2 M) hp) := hcut.out.setS _
        go_wp2_with fail
        refine (z22 _ _ _ _ _ _ e1 e1f).mono ?_
        rintro e w1 ⟨rfl, hw1⟩
        rw [← hw1] at HS
        clear hw1 d1 e1 e1f hcut hord hord2
        have hord := HS.out.d.ord
        have hord2 := HS.out.g.ord
        have d1 := (st_cell HS.out.d.st).2.1
        have d2 := (st_cell HS.out.d.st).2.2.1
        have d3 := (st_cell HS.out.d.st).2.2.2.1
        simp only [ptr] at d1 d2 d3
        have hN1 : N1 < w1.heap.size := by omega
        go_upto_if 85 with fail
        go_cut [18] from 19 to 96 (fun s18 wx => ∃ gb cn tv, s18 = .slice (some ⟨gb, 0, none⟩) (ndsOf bs bt C M).length cn ∧ Hid (S4 w wx N1 bs bt o0 o1 bg sgb cg gb cn C M sw ao (.slice (some ⟨sgb, 0, none⟩) (gpsOf bg hp).length cg) tv ((c1 C : Int) + ex) (c1 M) (c2 C) (c2 M) hp))
        case first =>
          by_cases ht : 0 < c2 C + c2 M
          · have e0 : (0 : Int) < (c2 C : Int) + (c2 M : Int) := by omega
            have En : Hid (ndsOf bs bt C M = [bs, bt]) := if_pos ht
            have HS2 : Hid (S3 w ((w1.alloc (.cells #[.pointer (some ⟨bs, 0, none⟩)] 31)).alloc (.cells #[.pointer (some ⟨bg, 0, none⟩)] 32)) N1 bs bt o0 o1 bg sgb cg C M sw ao (.slice (some ⟨sgb, 0, none⟩) (gpsOf bg hp).length cg) (.slice none 0 0) ((c1 C : Int) + ex) (c1 M) (c2 C) (c2 M) hp) := (HS.out.alloc _).alloc _
            have e2 := (grant_cell HS2.out.d.t).2.1
            have e2f := grant_frozen HS2.out.d.t 1
            have HK : Hid (((w1.alloc (.cells #[.pointer (some ⟨bs, 0, none⟩)] 31)).alloc (.cells #[.pointer (some ⟨bg, 0, none⟩)] 32)).heap[w1.heap.size]? = some (.cells #[.pointer (some ⟨bs, 0, none⟩)] 31)) := by
              rw [Hid, Below.heap_alloc _ _ _ (by simp)]; exact heap_at _ _ _ rfl
            have HL : Hid (ohLt w1.heap.size hp) := HS.out.h.lt (Nat.le_refl _)
            obtain ⟨i0, hi, hz0, hz1, hz2⟩ := info_parts info31
            clear HS
            go_wp2_with fail
            refine (z22 _ _ _ _ _ _ e2 e2f).mono ?_
            rintro e w2 ⟨rfl, hw2⟩
            have HS3 : Hid (S3 w w2 N1 bs bt o0 o1 bg sgb cg C M sw ao (.slice (some ⟨sgb, 0, none⟩) (gpsOf bg hp).length cg) (.slice (some ⟨w1.heap.size + 1, 0, none⟩) 1 1) ((c1 C : Int) + ex) (c1 M) (c2 C) (c2 M) hp) := by
              rw [hw2]; exact HS2.out.setT _
            have HK2 : Hid (w2.heap[w1.heap.size]? = some (.cells #[.pointer (some ⟨bs, 0, none⟩)] 31)) := by
              rw [hw2]; exact (One.setCell _ bt 1 _).heap HK.out (by omega)
            have Hsz : Hid (w2.heap.size = w1.heap.size + 2) := by rw [hw2]; simp [Hid, World.setCell]
            clear hw2 HS2 e2 e2f HK d1 d2 d3
            have d2 := (st_cell HS3.out.d.st).2.2.1
            simp only [ptr] at d2
            go_wp2_with (at_builtin; (refine wpList_append_own _ rfl _ _ 44 rfl (w1.heap.size) 31 i0 (.pointer none) 1 8 Tryd.underlying44 hi hz0 hz1 hz2 rfl (by decide) (.slice (some ⟨w1.heap.size, 0, none⟩) 1 1) 1 [ptr bs] rfl ?c0 ⟨w2.heap.size, 0, none⟩ 1 1 [ptr bt] rfl rfl ?c1 ?c2 ?c3 ?c4 ?c5 ?_))
            case c0 => exact lit_own ((One.refl (w1.heap.size + 1) w2).alloc _ |>.heap HK2.out (by omega))
            case c1 =>
              intro j u hj
              match j, hj with
              | 0, hj => simp at hj; subst hj; simp [Addr.add, ptr]
            case c2 => intro u hu; simp at hu; subst hu; rfl
            case c3 => unfold maxLen; omega
            case c4 => omega
            case c5 => have := Hsz.out; simp; omega
            intro v' w' hown' hgrow _
            have HR : Hid (∃ gb cn, v' = .slice (some ⟨gb, 0, none⟩) (ndsOf bs bt C M).length cn ∧ Hid (S4 w w' N1 bs bt o0 o1 bg sgb cg gb cn C M sw ao (.slice (some ⟨sgb, 0, none⟩) (gpsOf bg hp).length cg) (.slice (some ⟨w1.heap.size + 1, 0, none⟩) 1 1) ((c1 C : Int) + ex) (c1 M) (c2 C) (c2 M) hp)) := by
              obtain ⟨gb, cn, rfl, hge⟩ : ∃ g c, v' = .slice (some ⟨g, 0, none⟩) 2 c ∧ w1.heap.size ≤ g := by
                rcases hown'.2 with ⟨_, h0⟩ | ⟨g, cap, cur, rfl, hb, _⟩
                · omega
                · exact ⟨g, cap, rfl, hb⟩
              have o3 : One w1.heap.size (w2.alloc (.cells #[.pointer (some ⟨bt, 0, none⟩)] 31)) w' := One.grown hgrow
              have hs := Hsz.out
              have s4 := (HS3.out.alloc (.cells #[.pointer (some ⟨bt, 0, none⟩)] 31))
              refine ⟨gb, cn, by rw [En.out]; rfl, ⟨?_, by rw [En.out]; exact base_mono hown' (by omega), by omega, HL.out.mono hge⟩⟩
              have hne : w1.heap.size ≠ sgb := by
                intro e
                have h1 := HK2.out
                obtain ⟨_, q⟩ := HS3.out.sg
                rcases q with ⟨q, _⟩ | ⟨g', cap', cur, q, _, hgg, _⟩
                · simp at q
                · simp only [Value.slice.injEq, Option.some.injEq, Addr.mk.injEq, and_true, true_and] at q
                  obtain ⟨rfl, rfl⟩ := q
                  rw [← e, h1] at hgg
                  simp at hgg
              have b := s4.g.ord
              refine ⟨s4.d.one o3 (by omega), s4.g.one o3 (by omega), o3.own s4.sg (Ne.symm hne), ?_, s4.lt, s4.a⟩
              have hf := s4.h
              have hl := HL.out
              cases hp with
              | none => trivial
              | some p =>
                obtain ⟨bh, oh⟩ := p
                refine ⟨o3.heap hf.1 ?_, o3.heap hf.2.1 (by have : oh < w1.heap.size := hl; omega), hf.2.2⟩
                intro e
                have h1 := hf.1
                rw [e, ((One.refl (w1.heap.size + 1) w2).alloc _).heap HK2.out (by omega)] at h1
                simp [gpuObj] at h1
            clear hown' hgrow
            obtain ⟨gb, cn, hv', HS4⟩ := HR.out
            subst hv'
            clear HR
            go_wp2_with fail
            go_meet
            case rel => exact ⟨gb, cn, _, rfl, HS4⟩
          · have e0 : ¬ (0 : Int) < (c2 C : Int) + (c2 M : Int) := by omega
            have En : Hid (ndsOf bs bt C M = [bs]) := if_neg ht
            have HR : Hid (S4 w (w1.alloc (.cells #[.pointer (some ⟨bs, 0, none⟩)] 31)) N1 bs bt o0 o1 bg sgb cg w1.heap.size 1 C M sw ao (.slice (some ⟨sgb, 0, none⟩) (gpsOf bg hp).length cg) (.slice none 0 0) ((c1 C : Int) + ex) (c1 M) (c2 C) (c2 M) hp) :=
              ⟨HS.out.alloc _, by rw [En.out]; exact base_mono (lit_own (heap_at _ _ _ rfl)) (by omega), by omega, HS.out.h.lt (Nat.le_refl _)⟩
            clear HS ht
            go_wp2_with fail
            go_meet
            case rel => exact ⟨w1.heap.size, 1, _, by rw [En.out]; rfl, HR⟩
        case rest =>
          obtain ⟨gb, cn, tv, rfl, hcut⟩ := hcut
          clear HS
          go_wp2_with fail
          refine (z23 _ _ _ _).mono ?_
          rintro e w2 ⟨rfl, hw2⟩
          have Hw2 : Hid _ := hw2
          have st0 : w2.heap[w.heap.size]? = some (stObj (.pointer none) (.pointer none) (.pointer none) (.pointer none) (.pointer none)) := by
            rw [hw2]; exact ((One.refl (w.heap.size + 1) wc).alloc _ |>.alloc _).heap hcut.out.s.d.r (by omega)
          have st1 : w2.heap[N1]? = some (stObj (.pointer none) (ptr bs) (ptr bt) (ptr bg) (phv hp)) := by
            rw [hw2]; exact ((One.refl (N1 + 1) wc).alloc _ |>.alloc _).heap hcut.out.s.d.st (by omega)
          clear hw2
          obtain ⟨p4, hp4⟩ : ∃ p, phv hp = .pointer p := by cases hp <;> exact ⟨_, rfl⟩
          have Hp4 : Hid (phv hp = .pointer p4) := hp4
          rw [hp4] at st1
          clear hp4
          obtain ⟨r0, r1, r2, r3, r4⟩ := st_cell st0
          obtain ⟨t0, t1, t2, t3, t4⟩ := st_cell st1
          have fr0 := st_frozen st0
          have ft0 := st_frozen st1 0
          have hne : ¬ w.heap.size = N1 := by omega
          clear st0 st1 hord hord2
          simp only [ptr] at t1 t2 t3
          go_wp2_with fail
          refine bodyPost_ret (v := .agg #[.pointer (some ⟨wc.heap.size + 1, 0, none⟩), .pointer (some ⟨bs, 0, none⟩), .pointer (some ⟨bt, 0, none⟩), .pointer (some ⟨bg, 0, none⟩), .pointer p4]) ?_ rfl ?_
          · simp [results, Tryd.results8, go_sem, r0, r1, r2, r3, r4]
          · have hx := six w2 w.heap.size N1 (.pointer (some ⟨wc.heap.size + 1, 0, none⟩)) (.pointer (some ⟨wc.heap.size + 1, 0, none⟩)) (.pointer (some ⟨bs, 0, none⟩)) (.pointer (some ⟨bt, 0, none⟩)) (.pointer (some ⟨bg, 0, none⟩)) (.pointer p4)
            generalize (((((w2.setCell ⟨N1, 0, none⟩ (.pointer (some ⟨wc.heap.size + 1, 0, none⟩))).setCell ⟨w.heap.size, 0, none⟩ (.pointer (some ⟨wc.heap.size + 1, 0, none⟩))).setCell ⟨w.heap.size, 1, none⟩ (.pointer (some ⟨bs, 0, none⟩))).setCell ⟨w.heap.size, 2, none⟩ (.pointer (some ⟨bt, 0, none⟩))).setCell ⟨w.heap.size, 3, none⟩ (.pointer (some ⟨bg, 0, none⟩))).setCell ⟨w.heap.size, 4, none⟩ (.pointer p4) = w9 at hx ⊢
            obtain ⟨A, hb⟩ := built hC hM Hv.out Hex.out hcut.out Hw2.out hx.1 hx.2.1 hx.2.2.1 hx.2.2.2.1 hx.2.2.2.2
            exact ⟨_, A, bt, hp, by rw [Hp4.out]; rfl, hb⟩

end Go.Proofs.Qxb6612650aDoor.tb
