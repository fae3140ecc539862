import Derived.Test.Qxb6612650aDoorAft
namespace Go.Proofs.Qxb6612650aDoor.tb
open Go.ChangeShapes Go.WideShapes Go.ChangeAt Go.RowKit

theorem Rd.nil_of {B : Nat} {w : World} {k : IntKind} {l : List Int} (h : Rd B w k none l) : l = [] := by
  cases l with
  | nil => rfl
  | cons x l => obtain ⟨_, _, h, _⟩ := h 0 (by simp); cases h
theorem flipC {P : Program} {f : FuncId} {a : Array Value} {w : World} {v : Value} (h : Calls P f a w fun e w' => e = .returned v ∧ w' = w) : Calls P f a w fun e w' => e = .returned v ∧ w = w' := h.mono fun _ _ h => ⟨h.1, h.2.symm⟩
theorem z13_h (b o : Nat) (p : Option Addr) (w : World) (h : w.cell? ⟨b, 16, none⟩ = some (.slice (some ⟨o, 0, none⟩) 1 1)) (h2 : w.cell? ⟨o, 0, none⟩ = some (.pointer p)) : Calls Tryd.prog 13 #[.pointer (some ⟨b, 0, none⟩), .int .i64 0, .int .i64 0] w fun e w' => e = .returned (.pointer p) ∧ w' = w := by
  go_enter Tryd.func13, Tryd.ntmps13
  go_wp2
  go_ret
  exact ⟨rfl, rfl⟩
theorem gps_eq (left : Int) (bg : Nat) (hp : Option (Nat × Nat)) : (if 0 < left then gpsOf bg hp else (gpsOf bg hp).tail) = (if 0 < left then [bg] else []) ++ (hp.map (·.1)).toList := by
  by_cases h : 0 < left
  · rw [if_pos h, if_pos h]; cases hp <;> rfl
  · rw [if_neg h, if_neg h]; cases hp <;> rfl
theorem own_shape {w : World} {base e n : Nat} {v : Value} {xs : List Value} (h : w.ownsRow base e 1 v n xs) : ∃ a c, v = .slice a n c ∧ (0 < n → ∃ g, a = some ⟨g, 0, none⟩) := by
  rcases h.2 with ⟨rfl, rfl⟩ | ⟨g, cap, cur, rfl, _⟩
  · exact ⟨none, 0, rfl, fun h => by omega⟩
  · exact ⟨_, cap, rfl, fun _ => ⟨g, rfl⟩⟩
theorem lit_cell (w : World) (v : Value) (e : Nat) : (w.alloc (.cells #[v] e)).cell? ((⟨w.heap.size, 0, none⟩ : Addr).add 0) = some v := by simp [Addr.add]
theorem nds_eq (left : Int) (ao : Bool) (bs bt : Nat) (C M : List Int) : (if left = 0 ∧ ao = false then (ndsOf bs bt C M).tail else ndsOf bs bt C M) = (if (decide (left = 0) && !ao) = true then [] else [bs]) ++ (if 0 < c2 C + c2 M then [bt] else []) := by
  by_cases ht : 0 < c2 C + c2 M
  · simp only [ndsOf, if_pos ht]
    by_cases hz : left = 0 <;> cases ao <;> simp [hz]
  · simp only [ndsOf, if_neg ht]
    by_cases hz : left = 0 <;> cases ao <;> simp [hz]
theorem splice_all (n : Nat) (v : Value) (cs : List Value) (h : cs.length = n) : splice (List.replicate n v) 0 cs = cs := by
  simp [splice, h]

end Go.Proofs.Qxb6612650aDoor.tb
