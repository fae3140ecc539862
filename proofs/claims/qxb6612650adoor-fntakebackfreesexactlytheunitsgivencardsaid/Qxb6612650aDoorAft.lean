import Derived.Test.Qxb6612650aDoorFin
namespace Go.Proofs.Qxb6612650aDoor.tb
open Go.ChangeShapes Go.WideShapes Go.ChangeAt Go.RowKit

theorem len_of {W : World} {base e b n c : Nat} {os : List (Option Nat)} (h : W.ownsRow base e 1 (.slice (some ⟨b, 0, none⟩) n c) n (os.map pv)) : os.length = n := by simpa using h.1

/-- tbCellsAfter at resource 0, units struck. -/
theorem a10_0_struck {B : Nat} {w W : World} {L : Bk} {A : Ab} {bt N : Nat} {hp : Option (Nat × Nat)} {C M D U : List Int} {sw : Bool} (f : Fin w W L A bt N hp C M sw) (hD : D.length ≤ 1048576) (e : A.os0 = strike (owners L.bs bt D) U) (g : Good D U) (a : Option Addr) (k0 tb : Nat) (r : Rd B W .u8 a D)
    (ht : ∀ i, i < D.length → W.cell? ⟨tb, i, none⟩ = some (.bool (decide ((i : Int) ∈ U)))) (n0 p4 : Option Addr) :
    Calls Tryd.prog 10 #[.agg #[.pointer n0, .pointer (some ⟨L.bs, 0, none⟩), .pointer (some ⟨bt, 0, none⟩), .pointer (some ⟨L.bg, 0, none⟩), .pointer p4], .int .i64 0, .slice a D.length k0, .slice (some ⟨tb, 0, none⟩) D.length D.length] W fun e w' => e = .returned (.bool true) ∧ Hid (Ones W w') := by
  have hl : A.os0.length = D.length := by rw [e, strike_length, owners_length]
  refine z10_0 (B := B) n0 p4 L.bs bt L.bg L.o0 A.os0.length a k0 D (some ⟨tb, 0, none⟩) D.length D.length (fun i => decide ((i : Int) ∈ U)) A.os0 W hD r (fun i hi => .inr ⟨tb, rfl, ht i hi⟩) (fun _ => rfl) ?_ ?_ ?_
  · have h := (gpu_cell f.T.g).1
    rw [h, hl]
  · intro i hi
    exact row_cell f.T.r0 i (by omega)
  · intro i hi
    rw [e, strike_getD _ _ _ (fun u hu => (g.1 u hu).1), owners_getD _ _ _ _ hi]
    by_cases h : (i : Int) ∈ U <;> simp [h]
/-- .. none struck. -/
theorem a10_0_plain {B : Nat} {w W : World} {L : Bk} {A : Ab} {bt N : Nat} {hp : Option (Nat × Nat)} {C M D : List Int} {sw : Bool} (f : Fin w W L A bt N hp C M sw) (hD : D.length ≤ 1048576) (e : A.os0 = owners L.bs bt D) (a : Option Addr) (k0 : Nat) (r : Rd B W .u8 a D) (n0 p4 : Option Addr) :
    Calls Tryd.prog 10 #[.agg #[.pointer n0, .pointer (some ⟨L.bs, 0, none⟩), .pointer (some ⟨bt, 0, none⟩), .pointer (some ⟨L.bg, 0, none⟩), .pointer p4], .int .i64 0, .slice a D.length k0, .slice none 0 0] W fun e w' => e = .returned (.bool true) ∧ Hid (Ones W w') := by
  have hl : A.os0.length = D.length := by rw [e, owners_length]
  refine z10_0 (B := B) n0 p4 L.bs bt L.bg L.o0 A.os0.length a k0 D none 0 0 (fun _ => false) A.os0 W hD r (fun i hi => .inl ⟨rfl, rfl⟩) (fun h => absurd rfl h) ?_ ?_ ?_
  · have h := (gpu_cell f.T.g).1
    rw [h, hl]
  · intro i hi
    exact row_cell f.T.r0 i (by omega)
  · intro i hi
    rw [e, owners_getD _ _ _ _ hi]
    rfl

/-- tbCellsAfter at resource 1, units struck. -/
theorem a10_1_struck {B : Nat} {w W : World} {L : Bk} {A : Ab} {bt N : Nat} {hp : Option (Nat × Nat)} {C M D U : List Int} {sw : Bool} (f : Fin w W L A bt N hp C M sw) (hD : D.length ≤ 1048576) (e : A.os1 = strike (owners L.bs bt D) U) (g : Good D U) (a : Option Addr) (k0 tb : Nat) (r : Rd B W .u8 a D)
    (ht : ∀ i, i < D.length → W.cell? ⟨tb, i, none⟩ = some (.bool (decide ((i : Int) ∈ U)))) (n0 p4 : Option Addr) :
    Calls Tryd.prog 10 #[.agg #[.pointer n0, .pointer (some ⟨L.bs, 0, none⟩), .pointer (some ⟨bt, 0, none⟩), .pointer (some ⟨L.bg, 0, none⟩), .pointer p4], .int .i64 1, .slice a D.length k0, .slice (some ⟨tb, 0, none⟩) D.length D.length] W fun e w' => e = .returned (.bool true) ∧ Hid (Ones W w') := by
  have hl : A.os1.length = D.length := by rw [e, strike_length, owners_length]
  refine z10_1 (B := B) n0 p4 L.bs bt L.bg L.o1 A.os1.length a k0 D (some ⟨tb, 0, none⟩) D.length D.length (fun i => decide ((i : Int) ∈ U)) A.os1 W hD r (fun i hi => .inr ⟨tb, rfl, ht i hi⟩) (fun _ => rfl) ?_ ?_ ?_
  · have h := (gpu_cell f.T.g).2.1
    rw [h, hl]
  · intro i hi
    exact row_cell f.T.r1 i (by omega)
  · intro i hi
    rw [e, strike_getD _ _ _ (fun u hu => (g.1 u hu).1), owners_getD _ _ _ _ hi]
    by_cases h : (i : Int) ∈ U <;> simp [h]
/-- .. none struck. -/
theorem a10_1_plain {B : Nat} {w W : World} {L : Bk} {A : Ab} {bt N : Nat} {hp : Option (Nat × Nat)} {C M D : List Int} {sw : Bool} (f : Fin w W L A bt N hp C M sw) (hD : D.length ≤ 1048576) (e : A.os1 = owners L.bs bt D) (a : Option Addr) (k0 : Nat) (r : Rd B W .u8 a D) (n0 p4 : Option Addr) :
    Calls Tryd.prog 10 #[.agg #[.pointer n0, .pointer (some ⟨L.bs, 0, none⟩), .pointer (some ⟨bt, 0, none⟩), .pointer (some ⟨L.bg, 0, none⟩), .pointer p4], .int .i64 1, .slice a D.length k0, .slice none 0 0] W fun e w' => e = .returned (.bool true) ∧ Hid (Ones W w') := by
  have hl : A.os1.length = D.length := by rw [e, owners_length]
  refine z10_1 (B := B) n0 p4 L.bs bt L.bg L.o1 A.os1.length a k0 D none 0 0 (fun _ => false) A.os1 W hD r (fun i hi => .inl ⟨rfl, rfl⟩) (fun h => absurd rfl h) ?_ ?_ ?_
  · have h := (gpu_cell f.T.g).2.1
    rw [h, hl]
  · intro i hi
    exact row_cell f.T.r1 i (by omega)
  · intro i hi
    rw [e, owners_getD _ _ _ _ hi]
    rfl

end Go.Proofs.Qxb6612650aDoor.tb
