import Derived.Test.Qxb6612650aDoorRows
import Derived.WalkKit
import Derived.ProofKit
import Derived.OpenShut
import Derived.ShutString
import Derived.ChangeOld
import Derived.Below
import Derived.RegionTactic
import Derived.ChangeAlike
import Derived.Deep.QuietTactic
import Derived.BigQuiet
import Derived.OwnWalk
import Derived.WalkSpells
import Derived.Lib.Builder
import Derived.Laws.AppendOwnNone
import Derived.WalkLawsBesides
import Derived.Conc.SmallLaws
import Derived.Conc.EventLaws
namespace Go.Proofs.Qxb6612650aDoor.tb
open Go.ChangeShapes Go.WideShapes Go.ChangeAt Go.RowKit

def es : Value := .string { data := #[] }
def grantObj (wh : Bool) (gp : Value) (h0 h1 : Int) : Obj := .cells #[.bool wh, gp, .int .i64 h0, .int .i64 h1, .bool false, .pointer none] 66
def gpuObj (mi : Int) (o0 o1 : Value) (f0 f1 : Int) (wh : Bool) : Obj := .cells #[.int .i64 0, .int .i64 mi, .string { data := #[] }, .string { data := #[] }, .string { data := #[] }, .string { data := #[] }, .string { data := #[] }, .int .i64 0,
  .string { data := #[] }, .string { data := #[] }, .string { data := #[] }, .string { data := #[] }, .string { data := #[] }, .string { data := #[] }, .string { data := #[] }, .string { data := #[] }, o0, o1, .int .i64 f0, .int .i64 f1, .bool wh] 63
def nodeObj (gr ch : Value) : Obj := .cells #[.int .i32 0, .int .u32 0, .slice none 0 0, .map none, .slice none 0 0, .int .i64 0, gr, .pointer none, .string { data := #[] }, .nilFunc, ch] 81

theorem z19 (wh : Bool) (h0 h1 : Int) (w : World) : Calls Tryd.prog 19 #[.bool wh, .int .i64 h0, .int .i64 h1] w fun e w' => e = .returned (.pointer (some ⟨w.heap.size, 0, none⟩)) ∧ w' = w.alloc (grantObj wh (.slice none 0 0) h0 h1) := by
  go_enter Tryd.func19, Tryd.ntmps19
  go_wp2
  go_ret
  exact ⟨rfl, rfl⟩

theorem z20 (mi f0 f1 : Int) (a0 a1 : Option Addr) (n0 c0 n1 c1 : Nat) (wh : Bool) (w : World) : Calls Tryd.prog 20 #[.int .i64 mi, .slice a0 n0 c0, .slice a1 n1 c1, .int .i64 f0, .int .i64 f1, .bool wh] w fun e w' => e = .returned (.pointer (some ⟨w.heap.size, 0, none⟩)) ∧ w' = w.alloc (gpuObj mi (.slice a0 n0 c0) (.slice a1 n1 c1) f0 f1 wh) := by
  go_enter Tryd.func20, Tryd.ntmps20
  go_wp2
  go_ret
  exact ⟨rfl, rfl⟩

theorem z22 (b : Nat) (a : Option Addr) (n c : Nat) (v0 : Value) (w : World) (hc : w.cell? ⟨b, 1, none⟩ = some v0) (hf : w.frozen? ⟨b, 1, none⟩ = false) : Calls Tryd.prog 22 #[.pointer (some ⟨b, 0, none⟩), .slice a n c] w fun e w' => e = .returned (.tuple #[]) ∧ w' = w.setCell ⟨b, 1, none⟩ (.slice a n c) := by
  go_enter Tryd.func22, Tryd.ntmps22
  go_wp2
  go_end0
  exact ⟨rfl, rfl⟩

theorem z23 (a : Option Addr) (n c : Nat) (w : World) : Calls Tryd.prog 23 #[.slice a n c] w fun e w' => e = .returned (.pointer (some ⟨w.heap.size + 1, 0, none⟩)) ∧ w' = (w.alloc (.chan 0 #[] false 0 0 false)).alloc (nodeObj (.slice a n c) (.chan (some w.heap.size))) := by
  have hi : ∃ i, Tryd.prog.info? 67 = some i ∧ i.bytes = 0 := by
    have h : (Tryd.prog.info? 67).map (fun i => i.bytes) = some 0 := by kernel_rfl
    obtain ⟨i, hi, hb⟩ := Option.map_eq_some_iff.1 h
    exact ⟨i, hi, hb⟩
  obtain ⟨i, hi, hb⟩ := hi
  have hmk : ∀ w : World, (Instr.makeChan 79 (.int .i64 0)).run Tryd.prog w = .ok (.chan (some w.heap.size)) (w.alloc (.chan 0 #[] false 0 0 false)) := fun w => Conc.run_makeChan Tryd.underlying79 hi .i64 0 (by decide) (by rw [hb]; decide)
  go_enter Tryd.func23, Tryd.ntmps23
  go_wp2
  go_ret
  exact ⟨rfl, rfl⟩

/-- A block put in a block's place. -/
def setB (w : World) (r : Nat) (o : Obj) : World := { w with heap := w.heap.setIfInBounds r o }
theorem setB_size (w : World) (r : Nat) (o : Obj) : (setB w r o).heap.size = w.heap.size := by simp [setB]
theorem setB_other (w : World) (r k : Nat) (o : Obj) (h : k ≠ r) : (setB w r o).heap[k]? = w.heap[k]? := by
  simp [setB, Ne.symm h]
theorem setB_cell (w : World) (r b off : Nat) (o : Obj) (h : b ≠ r) : (setB w r o).cell? ⟨b, off, none⟩ = w.cell? ⟨b, off, none⟩ := World.cell?_of_block (setB_other w r b o h)
theorem setB_frozen (w : World) (r b off : Nat) (o : Obj) (h : b ≠ r) : (setB w r o).frozen? ⟨b, off, none⟩ = w.frozen? ⟨b, off, none⟩ := World.frozen?_of_block (setB_other w r b o h)

theorem chan_run (w : World) : (Instr.makeChan 79 (.int .i64 0)).run Tryd.prog w = .ok (.chan (some w.heap.size)) (w.alloc (.chan 0 #[] false 0 0 false)) := by
  have h : (Tryd.prog.info? 67).map (fun i => i.bytes) = some 0 := by kernel_rfl
  obtain ⟨i, hi, hb⟩ := Option.map_eq_some_iff.1 h
  exact Conc.run_makeChan Tryd.underlying79 hi .i64 0 (by decide) (by rw [hb]; decide)

theorem z31 (b r : Nat) (w : World) (hc : w.cell? ⟨b, 10, none⟩ = some (.chan (some r))) (hf : w.frozen? ⟨b, 10, none⟩ = false) (hr : w.heap[r]? = some (.chan 0 #[] false 0 0 false)) (hne : b ≠ r) :
    Calls Tryd.prog 31 #[.pointer (some ⟨b, 0, none⟩)] w fun e w' => e = .returned (.tuple #[]) ∧ w' = ((setB w r (.chan 0 #[] true 0 0 false)).setCell ⟨b, 10, none⟩ (.chan (some w.heap.size))).alloc (.chan 0 #[] false 0 0 false) := by
  have hmk := chan_run
  have hcl : ∀ ats ty, (Builtin.close_ ats ty #[.chan (some r)]).run Tryd.prog w = .ok (.tuple #[]) (setB w r (.chan 0 #[] true 0 0 false)) := fun ats ty => run_close_open ats ty hr
  have hsz := setB_size w r (.chan 0 #[] true 0 0 false)
  have hb : b < w.heap.size := World.block_lt_of_cell? w _ hc
  have hc2 : (setB w r (.chan 0 #[] true 0 0 false)).cell? ⟨b, 10, none⟩ = some (.chan (some r)) := (setB_cell w r b 10 _ hne).trans hc
  have hf2 : (setB w r (.chan 0 #[] true 0 0 false)).frozen? ⟨b, 10, none⟩ = false := (setB_frozen w r b 10 _ hne).trans hf
  clear hr
  go_enter Tryd.func31, Tryd.ntmps31
  go_wp2
  go_end0
  exact ⟨rfl, rfl⟩

/-! ### THE READERS -/
theorem z11_0 (b : Nat) (x : Int) (w : World) (h : w.cell? ⟨b, 18, none⟩ = some (.int .i64 x)) : Calls Tryd.prog 11 #[.pointer (some ⟨b, 0, none⟩), .int .i64 0] w fun e w' => e = .returned (.int .i64 x) ∧ w' = w := by
  go_enter Tryd.func11, Tryd.ntmps11
  go_wp2
  go_ret
  exact ⟨rfl, rfl⟩
theorem z11_1 (b : Nat) (x : Int) (w : World) (h : w.cell? ⟨b, 19, none⟩ = some (.int .i64 x)) : Calls Tryd.prog 11 #[.pointer (some ⟨b, 0, none⟩), .int .i64 1] w fun e w' => e = .returned (.int .i64 x) ∧ w' = w := by
  go_enter Tryd.func11, Tryd.ntmps11
  go_wp2
  go_ret
  exact ⟨rfl, rfl⟩
theorem z12_0 (b : Nat) (x : Int) (w : World) (h : w.cell? ⟨b, 2, none⟩ = some (.int .i64 x)) : Calls Tryd.prog 12 #[.pointer (some ⟨b, 0, none⟩), .int .i64 0] w fun e w' => e = .returned (.int .i64 x) ∧ w' = w := by
  go_enter Tryd.func12, Tryd.ntmps12
  go_wp2
  go_ret
  exact ⟨rfl, rfl⟩
theorem z12_1 (b : Nat) (x : Int) (w : World) (h : w.cell? ⟨b, 3, none⟩ = some (.int .i64 x)) : Calls Tryd.prog 12 #[.pointer (some ⟨b, 0, none⟩), .int .i64 1] w fun e w' => e = .returned (.int .i64 x) ∧ w' = w := by
  go_enter Tryd.func12, Tryd.ntmps12
  go_wp2
  go_ret
  exact ⟨rfl, rfl⟩
theorem z13_0 (b o n c u : Nat) (p : Option Addr) (w : World) (h : w.cell? ⟨b, 16, none⟩ = some (.slice (some ⟨o, 0, none⟩) n c)) (hu : u < n) (h2 : w.cell? ⟨o, u, none⟩ = some (.pointer p)) : Calls Tryd.prog 13 #[.pointer (some ⟨b, 0, none⟩), .int .i64 0, .int .i64 u] w fun e w' => e = .returned (.pointer p) ∧ w' = w := by
  go_enter Tryd.func13, Tryd.ntmps13
  go_wp2
  go_ret
  exact ⟨rfl, rfl⟩
theorem z13_1 (b o n c u : Nat) (p : Option Addr) (w : World) (h : w.cell? ⟨b, 17, none⟩ = some (.slice (some ⟨o, 0, none⟩) n c)) (hu : u < n) (h2 : w.cell? ⟨o, u, none⟩ = some (.pointer p)) : Calls Tryd.prog 13 #[.pointer (some ⟨b, 0, none⟩), .int .i64 1, .int .i64 u] w fun e w' => e = .returned (.pointer p) ∧ w' = w := by
  go_enter Tryd.func13, Tryd.ntmps13
  go_wp2
  go_ret
  exact ⟨rfl, rfl⟩
theorem z14 (b : Nat) (a : Option Addr) (n c : Nat) (w : World) (h : w.cell? ⟨b, 1, none⟩ = some (.slice a n c)) : Calls Tryd.prog 14 #[.pointer (some ⟨b, 0, none⟩)] w fun e w' => e = .returned (.slice a n c) ∧ w' = w := by
  go_enter Tryd.func14, Tryd.ntmps14
  go_wp2
  go_ret
  exact ⟨rfl, rfl⟩
theorem z15 (b : Nat) (x : Bool) (w : World) (h : w.cell? ⟨b, 20, none⟩ = some (.bool x)) : Calls Tryd.prog 15 #[.pointer (some ⟨b, 0, none⟩)] w fun e w' => e = .returned (.bool x) ∧ w' = w := by
  go_enter Tryd.func15, Tryd.ntmps15
  go_wp2
  go_ret
  exact ⟨rfl, rfl⟩
theorem z16 (b : Nat) (a : Option Addr) (n c : Nat) (w : World) (h : w.cell? ⟨b, 6, none⟩ = some (.slice a n c)) : Calls Tryd.prog 16 #[.pointer (some ⟨b, 0, none⟩)] w fun e w' => e = .returned (.slice a n c) ∧ w' = w := by
  go_enter Tryd.func16, Tryd.ntmps16
  go_wp2
  go_ret
  exact ⟨rfl, rfl⟩

/-! ### OWNERS: nil, or a grant's block -/
def pv (o : Option Nat) : Value := .pointer (o.map fun b => ⟨b, 0, none⟩)
def code (s t : Nat) (c : Int) : Option Nat := if c = 1 then some s else if c = 2 then some t else none
theorem z25 (s t : Nat) (c : Int) (w : World) : Calls Tryd.prog 25 #[.int .u8 c, .pointer (some ⟨s, 0, none⟩), .pointer (some ⟨t, 0, none⟩)] w fun e w' => e = .returned (pv (code s t c)) ∧ w' = w := by
  by_cases h1 : c = 1
  · have e : (c == 1) = true := by simp [h1]
    have E : Hid (code s t c = some s) := by simp [code, h1, Hid]
    clear h1
    go_enter Tryd.func25, Tryd.ntmps25
    go_wp2
    go_ret
    exact ⟨by rw [E.out]; rfl, rfl⟩
  · have e : (c == 1) = false := by simp [h1]
    by_cases h2 : c = 2
    · have e2 : (c == 2) = true := by simp [h2]
      have E : Hid (code s t c = some t) := by simp [code, h2, Hid]
      clear h1 h2
      go_enter Tryd.func25, Tryd.ntmps25
      go_wp2
      go_ret
      exact ⟨by rw [E.out]; rfl, rfl⟩
    · have e2 : (c == 2) = false := by simp [h2]
      have E : Hid (code s t c = none) := by simp [code, h1, h2, Hid]
      clear h1 h2
      go_enter Tryd.func25, Tryd.ntmps25
      go_wp2
      go_ret
      exact ⟨by rw [E.out]; rfl, rfl⟩

def isCells (w : World) (b : Nat) : Prop := ∃ ca ta, w.heap[b]? = some (.cells ca ta (0, 0))
theorem info66 : ∃ j, Tryd.prog.info? 66 = some j ∧ j.size ≠ 0 := by
  have h : (Tryd.prog.info? 66).map (fun i => i.size) = some 6 := by kernel_rfl
  obtain ⟨i, hi, hb⟩ := Option.map_eq_some_iff.1 h
  exact ⟨i, hi, by omega⟩
theorem info63 : ∃ j, Tryd.prog.info? 63 = some j ∧ j.size ≠ 0 := by
  have h : (Tryd.prog.info? 63).map (fun i => i.size) = some 21 := by kernel_rfl
  obtain ⟨i, hi, hb⟩ := Option.map_eq_some_iff.1 h
  exact ⟨i, hi, by omega⟩
theorem eql31 (w : World) (s : Nat) (x : Option Nat) (hs : isCells w s) (hx : ∀ b, x = some b → isCells w b) : (binOp .eql 31 (.pointer (some ⟨s, 0, none⟩)) (pv x)).run Tryd.prog w = .ok (.bool (x == some s)) w := by
  obtain ⟨j, hj, hz⟩ := info66
  cases x with
  | none => exact run_eql_pointer_nil w 31 _ (by kernel_rfl)
  | some b =>
    by_cases e : b = s
    · subst e; rw [show (some b == some b) = true by simp]; exact run_eql_ptr_same w _ Tryd.underlying31 hj
    · obtain ⟨ca, ta, ha⟩ := hs
      obtain ⟨cb, tb, hb⟩ := hx b rfl
      rw [show (some b == some s) = false by simp [e]]
      exact run_eql_ptr_other w Tryd.underlying31 hj hz (by intro h; cases h; exact e rfl) ha hb
theorem eql31' (w : World) (s b : Nat) (hs : isCells w s) (hx : isCells w b) : (binOp .eql 31 (.pointer (some ⟨s, 0, none⟩)) (.pointer (some ⟨b, 0, none⟩))).run Tryd.prog w = .ok (.bool (b == s)) w := by
  have := eql31 w s (some b) hs (by intro b' h; cases h; exact hx)
  simpa [pv] using this
theorem eql32 (w : World) (s b : Nat) (hs : isCells w s) (hx : isCells w b) : (binOp .eql 32 (.pointer (some ⟨s, 0, none⟩)) (.pointer (some ⟨b, 0, none⟩))).run Tryd.prog w = .ok (.bool (b == s)) w := by
  obtain ⟨j, hj, hz⟩ := info63
  by_cases e : b = s
  · subst e; rw [show (b == b) = true by simp]; exact run_eql_ptr_same w _ Tryd.underlying32 hj
  · obtain ⟨ca, ta, ha⟩ := hs
    obtain ⟨cb, tb, hb⟩ := hx
    rw [show (b == s) = false by simp [e]]
    exact run_eql_ptr_other w Tryd.underlying32 hj hz (by intro h; cases h; exact e rfl) ha hb
theorem neq31 (w : World) (p : Option Addr) : (binOp .neq 31 (.pointer p) (.pointer p)).run Tryd.prog w = .ok (.bool false) w := by
  obtain ⟨j, hj, hz⟩ := info66
  cases p with
  | none => exact run_neq_pointer_nil w 31 _ (by kernel_rfl)
  | some a => exact Lib.run_neq_ptr_same w a Tryd.underlying31 hj
theorem neq32 (w : World) (p : Option Addr) : (binOp .neq 32 (.pointer p) (.pointer p)).run Tryd.prog w = .ok (.bool false) w := by
  obtain ⟨j, hj, hz⟩ := info63
  cases p with
  | none => exact run_neq_pointer_nil w 32 _ (by kernel_rfl)
  | some a => exact Lib.run_neq_ptr_same w a Tryd.underlying32 hj

end Go.Proofs.Qxb6612650aDoor.tb
