import Derived.Test.Qxb6612650aDoorDel
namespace Go.Proofs.Qxb6612650aDoor.tb
open Go.ChangeShapes Go.WideShapes Go.ChangeAt Go.RowKit

/-! ### THE STATE: one node, one grant s, one gpu g -/
/-- Where all lies. 'th': the blocks of which a pointer is held against another. -/
structure Bk where
  (bs bg bn o0 o1 sgb gb ch B : Nat)
  th : List Nat
/-- What they hold. -/
structure Ab where
  sw : Bool
  gps : List Nat
  cg : Nat
  (h0 h1 : Int)
  (os0 os1 : List (Option Nat))
  (f0 f1 : Int)
  wh : Bool
  nds : List Nat
  cn : Nat

structure Tb (w : World) (L : Bk) (A : Ab) : Prop where
  s : w.heap[L.bs]? = some (grantObj A.sw (.slice (some ⟨L.sgb, 0, none⟩) A.gps.length A.cg) A.h0 A.h1)
  g : w.heap[L.bg]? = some (gpuObj 0 (.slice (some ⟨L.o0, 0, none⟩) A.os0.length A.os0.length) (.slice (some ⟨L.o1, 0, none⟩) A.os1.length A.os1.length) A.f0 A.f1 A.wh)
  n : w.heap[L.bn]? = some (nodeObj (.slice (some ⟨L.gb, 0, none⟩) A.nds.length A.cn) (.chan (some L.ch)))
  r0 : w.ownsRow L.B 31 1 (.slice (some ⟨L.o0, 0, none⟩) A.os0.length A.os0.length) A.os0.length (A.os0.map pv)
  r1 : w.ownsRow L.B 31 1 (.slice (some ⟨L.o1, 0, none⟩) A.os1.length A.os1.length) A.os1.length (A.os1.map pv)
  gp : w.ownsRow L.B 32 1 (.slice (some ⟨L.sgb, 0, none⟩) A.gps.length A.cg) A.gps.length (A.gps.map ptr)
  gr : w.ownsRow L.B 31 1 (.slice (some ⟨L.gb, 0, none⟩) A.nds.length A.cn) A.nds.length (A.nds.map ptr)
  c : w.heap[L.ch]? = some (.chan 0 #[] false 0 0 false)
  v : w.cell? ⟨0, 0, none⟩ = some (.int .i64 0) ∧ w.cell? ⟨0, 1, none⟩ = some (.int .i64 1)
  th : ∀ b ∈ L.th, isCells w b
  t0 : ∀ b, some b ∈ A.os0 → b ∈ L.th
  t1 : ∀ b, some b ∈ A.os1 → b ∈ L.th
  tg : ∀ b ∈ A.gps, b ∈ L.th
  tn : ∀ b ∈ A.nds, b ∈ L.th
  ts : L.bs ∈ L.th
  nd : [L.bs, L.bg, L.bn, L.o0, L.o1, L.sgb, L.gb, L.ch].Nodup
  lo : 0 < L.B ∧ L.B ≤ L.bs ∧ L.B ≤ L.bg ∧ L.B ≤ L.bn ∧ L.B ≤ L.o0 ∧ L.B ≤ L.o1 ∧ L.B ≤ L.sgb ∧ L.B ≤ L.gb ∧ L.B ≤ L.ch
  sz : A.os0.length ≤ 1048576 ∧ A.os1.length ≤ 1048576 ∧ A.gps.length ≤ 1048576 ∧ A.nds.length ≤ 1048576

/-- Only blocks of L have turned. -/
structure Fr (L : Bk) (w w' : World) : Prop where
  os : w'.os = w.os
  tape : w'.tape = w.tape
  output : w'.output = w.output
  size : w.heap.size ≤ w'.heap.size
  block : ∀ k, k < w.heap.size → k ≠ L.bs → k ≠ L.bg → k ≠ L.bn → k ≠ L.o0 → k ≠ L.o1 → k ≠ L.sgb → k ≠ L.gb → k ≠ L.ch → w'.heap[k]? = w.heap[k]?
theorem Fr.refl (L : Bk) (w : World) : Fr L w w := ⟨rfl, rfl, rfl, Nat.le_refl _, fun _ _ _ _ _ _ _ _ _ _ => rfl⟩
theorem Fr.trans {L : Bk} {a b c : World} (h : Fr L a b) (k : Fr L b c) : Fr L a c :=
  ⟨k.os.trans h.os, k.tape.trans h.tape, k.output.trans h.output, Nat.le_trans h.size k.size, fun i hi q1 q2 q3 q4 q5 q6 q7 q8 => (k.block i (Nat.lt_of_lt_of_le hi h.size) q1 q2 q3 q4 q5 q6 q7 q8).trans (h.block i hi q1 q2 q3 q4 q5 q6 q7 q8)⟩
/-- One block X has turned; new blocks may have come. -/
structure One (X : Nat) (w w' : World) : Prop where
  os : w'.os = w.os
  tape : w'.tape = w.tape
  output : w'.output = w.output
  size : w.heap.size ≤ w'.heap.size
  block : ∀ k, k < w.heap.size → k ≠ X → w'.heap[k]? = w.heap[k]?
theorem One.setCell (w : World) (b o : Nat) (v : Value) : One b w (w.setCell ⟨b, o, none⟩ v) := ⟨rfl, rfl, rfl, by simp [World.setCell], fun k _ h => Below.heap_setCell w _ v k h⟩
theorem One.drew {X : Nat} {w w' : World} (h : One X w w') : One X w w'.drew := ⟨h.os, h.tape, h.output, h.size, h.block⟩
theorem One.alloc {X : Nat} {w w' : World} (h : One X w w') (o : Obj) : One X w (w'.alloc o) := ⟨h.os, h.tape, h.output, by simp; exact Nat.le_succ_of_le h.size, fun k hk hne => (Below.heap_alloc w' o k (Nat.lt_of_lt_of_le hk h.size)).trans (h.block k hk hne)⟩
theorem One.refl (X : Nat) (w : World) : One X w w := ⟨rfl, rfl, rfl, Nat.le_refl _, fun _ _ _ => rfl⟩
theorem One.grown {X : Nat} {w w' : World} (h : w.grownBy w' (some X)) : One X w w' := ⟨h.os, h.tape, h.output, h.size, fun k hk hne => h.block k hk (by simpa using hne)⟩
theorem One.trans {X : Nat} {a b c : World} (h : One X a b) (k : One X b c) : One X a c :=
  ⟨k.os.trans h.os, k.tape.trans h.tape, k.output.trans h.output, Nat.le_trans h.size k.size, fun i hi hne => (k.block i (Nat.lt_of_lt_of_le hi h.size) hne).trans (h.block i hi hne)⟩
theorem One.fr {X : Nat} {L : Bk} {w w' : World} (h : One X w w') (hX : X = L.bs ∨ X = L.bg ∨ X = L.bn ∨ X = L.o0 ∨ X = L.o1 ∨ X = L.sgb ∨ X = L.gb ∨ X = L.ch) : Fr L w w' :=
  ⟨h.os, h.tape, h.output, h.size, fun k hk q1 q2 q3 q4 q5 q6 q7 q8 => h.block k hk (by rcases hX with h | h | h | h | h | h | h | h <;> (subst h; assumption))⟩
theorem One.heap {X b : Nat} {w w' : World} {o : Obj} (h : One X w w') (hb : w.heap[b]? = some o) (hne : b ≠ X) : w'.heap[b]? = some o := by
  rw [h.block b (Array.getElem?_eq_some_iff.1 hb).1 hne]; exact hb
theorem One.cell {X b o : Nat} {w w' : World} {v : Value} (h : One X w w') (hb : w.cell? ⟨b, o, none⟩ = some v) (hne : b ≠ X) : w'.cell? ⟨b, o, none⟩ = some v :=
  (World.cell?_of_block (h.block b (World.block_lt_of_cell? w _ hb) hne)).trans hb
theorem One.own {X b base e n c : Nat} {w w' : World} {xs : List Value} (h : One X w w') (ho : w.ownsRow base e 1 (.slice (some ⟨b, 0, none⟩) n c) n xs) (hne : b ≠ X) : w'.ownsRow base e 1 (.slice (some ⟨b, 0, none⟩) n c) n xs := by
  refine ⟨ho.1, ?_⟩
  rcases ho.2 with hn | ⟨g, cap, cur, hv, hb, hgg, rest⟩
  · exact .inl hn
  · simp only [Value.slice.injEq, Option.some.injEq, Addr.mk.injEq, and_true, true_and] at hv
    obtain ⟨rfl, rfl⟩ := hv
    exact .inr ⟨b, c, cur, rfl, hb, h.heap hgg hne, rest⟩
theorem One.isCells {X b : Nat} {w w' : World} (h : One X w w') (hb : isCells w b) (hX : b = X → tb.isCells w' b) : tb.isCells w' b := by
  by_cases e : b = X
  · exact hX e
  · obtain ⟨ca, ta, hc⟩ := hb
    exact ⟨ca, ta, h.heap hc e⟩

theorem own_cells {w : World} {b base e n c : Nat} {xs : List Value} (ho : w.ownsRow base e 1 (.slice (some ⟨b, 0, none⟩) n c) n xs) : isCells w b := by
  rcases ho.2 with ⟨h, _⟩ | ⟨g, cap, cur, hv, hb, hgg, rest⟩
  · simp at h
  · simp only [Value.slice.injEq, Option.some.injEq, Addr.mk.injEq, and_true, true_and] at hv
    obtain ⟨rfl, rfl⟩ := hv
    exact ⟨_, _, hgg⟩

/-- A new block changes nothing. -/
theorem Tb.alloc {w : World} {L : Bk} {A : Ab} (T : Tb w L A) (o : Obj) : Tb (w.alloc o) L A := by
  have h : ∀ X, One X w (w.alloc o) := fun X => (One.refl X w).alloc o
  have hl := T.lo
  refine ⟨((h (L.bs + 1)).heap T.s (by omega)), ((h (L.bg + 1)).heap T.g (by omega)), ((h (L.bn + 1)).heap T.n (by omega)), ((h (L.o0 + 1)).own T.r0 (by omega)), ((h (L.o1 + 1)).own T.r1 (by omega)), ((h (L.sgb + 1)).own T.gp (by omega)), ((h (L.gb + 1)).own T.gr (by omega)), ((h (L.ch + 1)).heap T.c (by omega)), (⟨(h 1).cell T.v.1 (by omega), (h 1).cell T.v.2 (by omega)⟩), (fun b hb => (h (b + 1)).isCells (T.th b hb) (by omega)), T.t0, T.t1, T.tg, T.tn, T.ts, T.nd, T.lo, T.sz⟩

theorem ndS {a b c d e f g h : Nat} (n : [a, b, c, d, e, f, g, h].Nodup) : (a ≠ b ∧ a ≠ c ∧ a ≠ d ∧ a ≠ e ∧ a ≠ f ∧ a ≠ g ∧ a ≠ h) ∧ (b ≠ c ∧ b ≠ d ∧ b ≠ e ∧ b ≠ f ∧ b ≠ g ∧ b ≠ h) ∧ (c ≠ d ∧ c ≠ e ∧ c ≠ f ∧ c ≠ g ∧ c ≠ h) ∧ (d ≠ e ∧ d ≠ f ∧ d ≠ g ∧ d ≠ h) ∧ (e ≠ f ∧ e ≠ g ∧ e ≠ h) ∧ (f ≠ g ∧ f ≠ h) ∧ g ≠ h := by
  simpa using n

/-- The owners' row of resource 0 has turned. -/
theorem Tb.row0 {w w' : World} {L : Bk} {A : Ab} (T : Tb w L A) (h : One L.o0 w w') (os : List (Option Nat)) (hl : os.length = A.os0.length) (ho : w'.ownsRow L.B 31 1 (.slice (some ⟨L.o0, 0, none⟩) os.length os.length) os.length (os.map pv)) (ht : ∀ b, some b ∈ os → b ∈ L.th) : Tb w' L { A with os0 := os } := by
  have v3 : (0 : Nat) ≠ L.o0 := by have := T.lo; omega
  obtain ⟨⟨n01, n02, n03, n04, n05, n06, n07⟩, ⟨n12, n13, n14, n15, n16, n17⟩, ⟨n23, n24, n25, n26, n27⟩, ⟨n34, n35, n36, n37⟩, ⟨n45, n46, n47⟩, ⟨n56, n57⟩, n67⟩ := ndS T.nd
  exact ⟨(h.heap T.s n03), (by rw [hl]; exact (h.heap T.g n13)), (h.heap T.n n23), ho, (h.own T.r1 (Ne.symm n34)), (h.own T.gp (Ne.symm n35)), (h.own T.gr (Ne.symm n36)), (h.heap T.c (Ne.symm n37)), ⟨(h.cell T.v.1 v3), (h.cell T.v.2 v3)⟩, (fun b hb => h.isCells (T.th b hb) (fun e => by rw [e]; exact own_cells ho)), ht, T.t1, T.tg, T.tn, T.ts, T.nd, T.lo, ⟨by rw [hl]; exact T.sz.1, T.sz.2⟩⟩
theorem Tb.row1 {w w' : World} {L : Bk} {A : Ab} (T : Tb w L A) (h : One L.o1 w w') (os : List (Option Nat)) (hl : os.length = A.os1.length) (ho : w'.ownsRow L.B 31 1 (.slice (some ⟨L.o1, 0, none⟩) os.length os.length) os.length (os.map pv)) (ht : ∀ b, some b ∈ os → b ∈ L.th) : Tb w' L { A with os1 := os } := by
  have v4 : (0 : Nat) ≠ L.o1 := by have := T.lo; omega
  obtain ⟨⟨n01, n02, n03, n04, n05, n06, n07⟩, ⟨n12, n13, n14, n15, n16, n17⟩, ⟨n23, n24, n25, n26, n27⟩, ⟨n34, n35, n36, n37⟩, ⟨n45, n46, n47⟩, ⟨n56, n57⟩, n67⟩ := ndS T.nd
  exact ⟨(h.heap T.s n04), (by rw [hl]; exact (h.heap T.g n14)), (h.heap T.n n24), (h.own T.r0 n34), ho, (h.own T.gp (Ne.symm n45)), (h.own T.gr (Ne.symm n46)), (h.heap T.c (Ne.symm n47)), ⟨(h.cell T.v.1 v4), (h.cell T.v.2 v4)⟩, (fun b hb => h.isCells (T.th b hb) (fun e => by rw [e]; exact own_cells ho)), T.t0, ht, T.tg, T.tn, T.ts, T.nd, T.lo, ⟨T.sz.1, by rw [hl]; exact T.sz.2.1, T.sz.2.2⟩⟩
/-- The gpu has turned. -/
theorem Tb.gpu {w w' : World} {L : Bk} {A : Ab} (T : Tb w L A) (h : One L.bg w w') (f0 f1 : Int) (wh : Bool)
    (hg : w'.heap[L.bg]? = some (gpuObj 0 (.slice (some ⟨L.o0, 0, none⟩) A.os0.length A.os0.length) (.slice (some ⟨L.o1, 0, none⟩) A.os1.length A.os1.length) f0 f1 wh)) : Tb w' L { A with f0 := f0, f1 := f1, wh := wh } := by
  have v1 : (0 : Nat) ≠ L.bg := by have := T.lo; omega
  obtain ⟨⟨n01, n02, n03, n04, n05, n06, n07⟩, ⟨n12, n13, n14, n15, n16, n17⟩, ⟨n23, n24, n25, n26, n27⟩, ⟨n34, n35, n36, n37⟩, ⟨n45, n46, n47⟩, ⟨n56, n57⟩, n67⟩ := ndS T.nd
  exact ⟨(h.heap T.s n01), hg, (h.heap T.n (Ne.symm n12)), (h.own T.r0 (Ne.symm n13)), (h.own T.r1 (Ne.symm n14)), (h.own T.gp (Ne.symm n15)), (h.own T.gr (Ne.symm n16)), (h.heap T.c (Ne.symm n17)), ⟨(h.cell T.v.1 v1), (h.cell T.v.2 v1)⟩, (fun b hb => h.isCells (T.th b hb) (fun e => by rw [e]; exact ⟨_, _, hg⟩)), T.t0, T.t1, T.tg, T.tn, T.ts, T.nd, T.lo, T.sz⟩
/-- The grant has turned. -/
theorem Tb.grant {w w' : World} {L : Bk} {A : Ab} (T : Tb w L A) (h : One L.bs w w') (h0 h1 : Int)
    (hs : w'.heap[L.bs]? = some (grantObj A.sw (.slice (some ⟨L.sgb, 0, none⟩) A.gps.length A.cg) h0 h1)) : Tb w' L { A with h0 := h0, h1 := h1 } := by
  have v0 : (0 : Nat) ≠ L.bs := by have := T.lo; omega
  obtain ⟨⟨n01, n02, n03, n04, n05, n06, n07⟩, ⟨n12, n13, n14, n15, n16, n17⟩, ⟨n23, n24, n25, n26, n27⟩, ⟨n34, n35, n36, n37⟩, ⟨n45, n46, n47⟩, ⟨n56, n57⟩, n67⟩ := ndS T.nd
  exact ⟨hs, (h.heap T.g (Ne.symm n01)), (h.heap T.n (Ne.symm n02)), (h.own T.r0 (Ne.symm n03)), (h.own T.r1 (Ne.symm n04)), (h.own T.gp (Ne.symm n05)), (h.own T.gr (Ne.symm n06)), (h.heap T.c (Ne.symm n07)), ⟨(h.cell T.v.1 v0), (h.cell T.v.2 v0)⟩, (fun b hb => h.isCells (T.th b hb) (fun e => by rw [e]; exact ⟨_, _, hs⟩)), T.t0, T.t1, T.tg, T.tn, T.ts, T.nd, T.lo, T.sz⟩
/-- The grant's slice of gpus has turned. -/
theorem Tb.gpus {w w1 w' : World} {L : Bk} {A : Ab} (T : Tb w L A) (h : One L.sgb w w1) (h2 : One L.bs w1 w') (gps : List Nat) (hsub : ∀ b ∈ gps, b ∈ A.gps) (hle : gps.length ≤ A.gps.length)
    (hs : w'.heap[L.bs]? = some (grantObj A.sw (.slice (some ⟨L.sgb, 0, none⟩) gps.length A.cg) A.h0 A.h1)) (ho : w1.ownsRow L.B 32 1 (.slice (some ⟨L.sgb, 0, none⟩) gps.length A.cg) gps.length (gps.map ptr)) : Tb w' L { A with gps := gps } := by
  have v5 : (0 : Nat) ≠ L.sgb := by have := T.lo; omega
  have v0 : (0 : Nat) ≠ L.bs := by have := T.lo; omega
  obtain ⟨⟨n01, n02, n03, n04, n05, n06, n07⟩, ⟨n12, n13, n14, n15, n16, n17⟩, ⟨n23, n24, n25, n26, n27⟩, ⟨n34, n35, n36, n37⟩, ⟨n45, n46, n47⟩, ⟨n56, n57⟩, n67⟩ := ndS T.nd
  exact ⟨hs, (h2.heap (h.heap T.g n15) (Ne.symm n01)), (h2.heap (h.heap T.n n25) (Ne.symm n02)), (h2.own (h.own T.r0 n35) (Ne.symm n03)), (h2.own (h.own T.r1 n45) (Ne.symm n04)), (h2.own ho (Ne.symm n05)), (h2.own (h.own T.gr (Ne.symm n56)) (Ne.symm n06)), (h2.heap (h.heap T.c (Ne.symm n57)) (Ne.symm n07)), ⟨(h2.cell (h.cell T.v.1 v5) v0), (h2.cell (h.cell T.v.2 v5) v0)⟩, (fun b hb => h2.isCells (h.isCells (T.th b hb) (fun e => by rw [e]; exact own_cells ho)) (fun e => by rw [e]; exact ⟨_, _, hs⟩)), T.t0, T.t1, (fun b hb => T.tg b (hsub b hb)), T.tn, T.ts, T.nd, T.lo, ⟨T.sz.1, T.sz.2.1, Nat.le_trans hle T.sz.2.2.1, T.sz.2.2.2⟩⟩
/-- The node's slice of grants has turned. -/
theorem Tb.grants {w w1 w' : World} {L : Bk} {A : Ab} (T : Tb w L A) (h : One L.gb w w1) (h2 : One L.bn w1 w') (nds : List Nat) (hsub : ∀ b ∈ nds, b ∈ A.nds) (hle : nds.length ≤ A.nds.length)
    (hs : w'.heap[L.bn]? = some (nodeObj (.slice (some ⟨L.gb, 0, none⟩) nds.length A.cn) (.chan (some L.ch)))) (ho : w1.ownsRow L.B 31 1 (.slice (some ⟨L.gb, 0, none⟩) nds.length A.cn) nds.length (nds.map ptr)) : Tb w' L { A with nds := nds } := by
  have v6 : (0 : Nat) ≠ L.gb := by have := T.lo; omega
  have v2 : (0 : Nat) ≠ L.bn := by have := T.lo; omega
  obtain ⟨⟨n01, n02, n03, n04, n05, n06, n07⟩, ⟨n12, n13, n14, n15, n16, n17⟩, ⟨n23, n24, n25, n26, n27⟩, ⟨n34, n35, n36, n37⟩, ⟨n45, n46, n47⟩, ⟨n56, n57⟩, n67⟩ := ndS T.nd
  exact ⟨(h2.heap (h.heap T.s n06) n02), (h2.heap (h.heap T.g n16) n12), hs, (h2.own (h.own T.r0 n36) (Ne.symm n23)), (h2.own (h.own T.r1 n46) (Ne.symm n24)), (h2.own (h.own T.gp n56) (Ne.symm n25)), (h2.own ho (Ne.symm n26)), (h2.heap (h.heap T.c (Ne.symm n67)) (Ne.symm n27)), ⟨(h2.cell (h.cell T.v.1 v6) v2), (h2.cell (h.cell T.v.2 v6) v2)⟩, (fun b hb => h2.isCells (h.isCells (T.th b hb) (fun e => by rw [e]; exact own_cells ho)) (fun e => by rw [e]; exact ⟨_, _, hs⟩)), T.t0, T.t1, T.tg, (fun b hb => T.tn b (hsub b hb)), T.ts, T.nd, T.lo, ⟨T.sz.1, T.sz.2.1, T.sz.2.2.1, Nat.le_trans hle T.sz.2.2.2⟩⟩
/-- The channel has been closed and a new one laid in its place. -/
theorem Tb.chan {w w1 w' : World} {L : Bk} {A : Ab} (T : Tb w L A) (h : One L.ch w w1) (h2 : One L.bn w1 w') (ch : Nat) (hlt : w.heap.size ≤ ch)
    (hs : w'.heap[L.bn]? = some (nodeObj (.slice (some ⟨L.gb, 0, none⟩) A.nds.length A.cn) (.chan (some ch)))) (hc : w'.heap[ch]? = some (.chan 0 #[] false 0 0 false)) : Tb w' { L with ch := ch } A := by
  have v7 : (0 : Nat) ≠ L.ch := by have := T.lo; omega
  have v2 : (0 : Nat) ≠ L.bn := by have := T.lo; omega
  have lt : ∀ {b : Nat} {o : Obj}, w.heap[b]? = some o → b ≠ ch := fun hb => Nat.ne_of_lt (Nat.lt_of_lt_of_le (Array.getElem?_eq_some_iff.1 hb).1 hlt)
  have lto : ∀ {b : Nat}, tb.isCells w b → b ≠ ch := fun ⟨_, _, hb⟩ => lt hb
  have hch : ¬ L.ch ∈ L.th := fun hm => by
    obtain ⟨ca, ta, hx⟩ := T.th _ hm
    rw [T.c] at hx
    cases hx
  have hBc : L.B ≤ ch := by
    have := T.lo
    have := (Array.getElem?_eq_some_iff.1 T.s).1
    omega
  obtain ⟨⟨n01, n02, n03, n04, n05, n06, n07⟩, ⟨n12, n13, n14, n15, n16, n17⟩, ⟨n23, n24, n25, n26, n27⟩, ⟨n34, n35, n36, n37⟩, ⟨n45, n46, n47⟩, ⟨n56, n57⟩, n67⟩ := ndS T.nd
  exact ⟨(h2.heap (h.heap T.s n07) n02), (h2.heap (h.heap T.g n17) n12), hs, (h2.own (h.own T.r0 n37) (Ne.symm n23)), (h2.own (h.own T.r1 n47) (Ne.symm n24)), (h2.own (h.own T.gp n57) (Ne.symm n25)), (h2.own (h.own T.gr n67) (Ne.symm n26)), hc, ⟨(h2.cell (h.cell T.v.1 v7) v2), (h2.cell (h.cell T.v.2 v7) v2)⟩, (fun b hb => h2.isCells (h.isCells (T.th b hb) (fun e => absurd (e ▸ hb) hch)) (fun e => by rw [e]; exact ⟨_, _, hs⟩)), T.t0, T.t1, T.tg, T.tn, T.ts, (by simp only [List.nodup_cons, List.mem_cons, List.not_mem_nil, or_false, not_or, List.nodup_nil, not_false_eq_true, and_true]; exact ⟨⟨n01, n02, n03, n04, n05, n06, lt T.s⟩, ⟨n12, n13, n14, n15, n16, lt T.g⟩, ⟨n23, n24, n25, n26, lt T.n⟩, ⟨n34, n35, n36, lto (own_cells T.r0)⟩, ⟨n45, n46, lto (own_cells T.r1)⟩, ⟨n56, lto (own_cells T.gp)⟩, lto (own_cells T.gr)⟩), ⟨T.lo.1, T.lo.2.1, T.lo.2.2.1, T.lo.2.2.2.1, T.lo.2.2.2.2.1, T.lo.2.2.2.2.2.1, T.lo.2.2.2.2.2.2.1, T.lo.2.2.2.2.2.2.2.1, hBc⟩, T.sz⟩

end Go.Proofs.Qxb6612650aDoor.tb
