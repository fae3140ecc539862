/-
  PROOF OF 'Rows.FnSeqHeapAdjacentSwapsRotateLeftSaid'. The frame (IsRow, lifted, over) is the seat's shell; the plain law on lists (sw, rotk), the contracts of the callees and the walk are typed here.
-/
import Derived.Test.Qxb6612441aRows
import Derived.WalkKit
import Derived.ProofKit
import Derived.OpenShut
import Derived.ShutString
import Derived.ChangeOld
import Derived.Below
import Derived.RegionTactic
import Derived.ChangeAlike
import Derived.Deep.QuietTactic
import Derived.BigQuiet
import Derived.OwnWalk
import Derived.WalkSpells
import Derived.Laws.AppendOwnNone
import Derived.Lib.Builder
import Derived.WalkLawsBesides
namespace Go.Proofs.Qxb6612441a.fnSeqHeapAdjacentSwapsRotateLeft
open Go.ChangeShapes Go.WideShapes Go.ChangeAt Go.RowKit


/-- A new entry: all zero but its seq. -/
def entryObj (x : Int) : Obj := .cells
          #[Value.string { data := #[] }, Value.pointer none, Value.int IntKind.u8 0, Value.int IntKind.u8 0,
            Value.bool false, Value.int IntKind.i64 0, Value.int IntKind.i64 0, Value.string { data := #[] },
            Value.int IntKind.i64 0, Value.int IntKind.i64 0, Value.int IntKind.i64 0, Value.pointer none,
            Value.pointer none, Value.pointer none, Value.pointer none, Value.int IntKind.u64 0, Value.pointer none,
            Value.pointer none, Value.int IntKind.u64 x, Value.string { data := #[] }, Value.int IntKind.i64 0,
            Value.int IntKind.i64 0]
          54
theorem z13 (w : World) : Calls Try.prog 13 #[] w fun e w' => e = .returned (.slice none 0 0) ∧ w = w' := by
  go_enter Try.func13, Try.ntmps13
  go_wp2
  go_ret
  exact ⟨rfl, rfl⟩

theorem z14 (x : Int) (w : World) : Calls Try.prog 14 #[.int .u64 x] w fun e w' => e = .returned (.pointer (some ⟨w.heap.size, 0, none⟩)) ∧ w' = w.alloc (entryObj x) := by
  go_enter Try.func14, Try.ntmps14
  go_wp2
  go_ret
  exact ⟨rfl, rfl⟩

theorem z16 (x : Int) (p : Nat) (w : World) (h : w.cell? ⟨p, 18, none⟩ = some (.int .u64 x)) : Calls Try.prog 16 #[.pointer (some ⟨p, 0, none⟩)] w fun e w' => e = .returned (.int .u64 x) ∧ w = w' := by
  go_enter Try.func16, Try.ntmps16
  go_wp2
  go_ret
  exact ⟨rfl, rfl⟩

theorem z16n (x : Int) (p : Nat) (w : World) (h : w.cell? ⟨p, 18, none⟩ = some (.int .u64 x)) (n : Nat) : Calls Try.prog 16 #[.pointer (some ⟨p, 0, none⟩)] (w.drewN n) fun e w' => e = .returned (.int .u64 x) ∧ w' = w.drewN n :=
  (z16 x p (w.drewN n) h).mono fun _ _ h => ⟨h.1, h.2.symm⟩

theorem Try.some54 : (Try.prog.info? 54).isSome = true := by kernel_rfl
/-- A pointer held against itself. -/
theorem neq_same (a : Addr) (w : World) : (binOp .neq 23 (.pointer (some a)) (.pointer (some a))).run Try.prog w = .ok (.bool false) w := by
  obtain ⟨j, hj⟩ := Option.isSome_iff_exists.1 Try.some54
  exact Lib.run_neq_ptr_same w a Try.underlying23 hj

/-! ### THE PLAIN PART: lists of block numbers -/
def ptr (b : Nat) : Value := .pointer (some ⟨b, 0, none⟩)
def sw (l : List Nat) (i j : Nat) : List Nat := (l.set i (l.getD j 0)).set j (l.getD i 0)
theorem sw_length (l : List Nat) (i j : Nat) : (sw l i j).length = l.length := by simp [sw]
theorem sw_getD (l : List Nat) (i j m : Nat) (hi : i < l.length) (hj : j < l.length) :
    (sw l i j).getD m 0 = if m = j then l.getD i 0 else if m = i then l.getD j 0 else l.getD m 0 := by
  by_cases hm : m < l.length
  · simp only [sw, List.getD_eq_getElem?_getD, List.getElem?_set, List.length_set]
    by_cases h1 : m = j
    · subst h1; simp [hm]
    · by_cases h2 : m = i
      · subst h2; simp [hm, h1, Ne.symm h1]
      · simp [h1, h2, Ne.symm h1, Ne.symm h2]
  · rw [if_neg (by omega), if_neg (by omega)]
    simp only [List.getD_eq_getElem?_getD]
    rw [List.getElem?_eq_none (by rw [sw_length]; omega), List.getElem?_eq_none (by omega)]
theorem ext_getD {l m : List Nat} (hl : l.length = m.length) (h : ∀ i, i < l.length → l.getD i 0 = m.getD i 0) : l = m := by
  apply List.ext_getElem hl
  intro i h1 h2
  have := h i h1
  simpa [List.getD_eq_getElem?_getD, h1, h2] using this
theorem sw_back (l : List Nat) (i j : Nat) (hi : i < l.length) (hj : j < l.length) : sw (sw l i j) j i = l := by
  apply ext_getD (by simp [sw_length])
  intro m _
  rw [sw_getD _ _ _ _ (by rw [sw_length]; exact hj) (by rw [sw_length]; exact hi), sw_getD _ _ _ _ hi hj, sw_getD _ _ _ _ hi hj, sw_getD _ _ _ _ hi hj]
  by_cases h1 : m = i
  · subst h1; by_cases h2 : m = j
    · subst h2; simp
    · simp
  · by_cases h2 : m = j
    · subst h2; simp [h1]
      intro h; exact absurd h.symm h1
    · simp [h1, h2]
/-- The list behind k swaps of neighbours. -/
def rotk (l : List Nat) : Nat → List Nat
  | 0 => l
  | k + 1 => sw (rotk l k) k (k + 1)
theorem rotk_length (l : List Nat) : ∀ k, (rotk l k).length = l.length
  | 0 => rfl
  | k + 1 => by rw [rotk, sw_length, rotk_length l k]
theorem rotk_getD (l : List Nat) : ∀ k m, k < l.length → (rotk l k).getD m 0 = if m < k then l.getD (m + 1) 0 else if m = k then l.getD 0 0 else l.getD m 0
  | 0, m, _ => by by_cases h : m = 0 <;> simp [rotk, h]
  | k + 1, m, h => by
    rw [rotk, sw_getD _ _ _ _ (by rw [rotk_length]; omega) (by rw [rotk_length]; omega)]
    rw [rotk_getD l k k (by omega), rotk_getD l k (k + 1) (by omega), rotk_getD l k m (by omega)]
    by_cases h1 : m = k + 1
    · subst h1; simp
    · by_cases h2 : m = k
      · subst h2; simp; omega
      · by_cases h3 : m < k
        · simp [h1, h2, h3]; omega
        · simp [h1, h2, h3]; omega
theorem rotk_back (l : List Nat) (k : Nat) (h : k + 1 < l.length) : sw (rotk l (k + 1)) (k + 1) k = rotk l k := by
  rw [rotk]; exact sw_back _ _ _ (by rw [rotk_length]; omega) (by rw [rotk_length]; omega)
theorem rotk_last (l : List Nat) (m : Nat) (h : m < l.length) : (rotk l (l.length - 1)).getD m 0 = l.getD ((m + 1) % l.length) 0 := by
  rw [rotk_getD l _ m (by omega)]
  by_cases h1 : m < l.length - 1
  · rw [if_pos h1, Nat.mod_eq_of_lt (by omega)]
  · rw [if_neg h1, if_pos (by omega), show m + 1 = l.length by omega, Nat.mod_self]

/-! ### WORLDS -/
theorem own_cell {w : World} {base g n cap : Nat} {ps : List Nat} (h : w.ownsRow base 23 1 (.slice (some ⟨g, 0, none⟩) n cap) n (ps.map ptr)) (i : Nat) (hi : i < n) : w.cell? ⟨g, i, none⟩ = some (.pointer (some ⟨ps.getD i 0, 0, none⟩)) := by
  have hl : ps.length = n := by simpa using h.1
  rw [h.cellAt i (by omega)]
  simp [ptr, List.getElem?_eq_getElem (by omega : i < ps.length)]
def Ents (w : World) (ps : List Nat) (zs : List Int) : Prop := ∀ i, i < ps.length → w.heap[ps.getD i 0]? = some (entryObj (zs.getD i 0))
theorem entry_cell {w : World} {p : Nat} {x : Int} (h : w.heap[p]? = some (entryObj x)) : w.cell? ⟨p, 18, none⟩ = some (.int .u64 x) := by
  simp [World.cell?, h, entryObj]

set_option maxHeartbeats 400000 in
theorem swap (g n cap i j : Nat) (p q : Option Addr) (w : World) (hi : (i : Int) < (n : Int)) (hj : (j : Int) < (n : Int))
    (ci : w.cell? ⟨g, i, none⟩ = some (.pointer p)) (cj : w.cell? ⟨g, j, none⟩ = some (.pointer q)) (fi : w.frozen? ⟨g, i, none⟩ = false) (fj : w.frozen? ⟨g, j, none⟩ = false) :
    Calls Try.prog 15 #[.slice (some ⟨g, 0, none⟩) n cap, .int .i64 i, .int .i64 j] w fun e w' => e = .returned (.tuple #[]) ∧ w' = ((w.setCell ⟨g, i, none⟩ (.pointer q)).setCell ⟨g, j, none⟩ (.pointer p)).drew := by
  obtain ⟨v', hy'⟩ := cell?_setCell_some (w := w) (p := ⟨g, i, none⟩) (x := .pointer q) (q := ⟨g, j, none⟩) (v := .pointer q) cj
  go_enter Try.func15, Try.ntmps15
  go_wp2
  go_region
  all_goals (go_end0; exact ⟨rfl, rfl⟩)


theorem swap_own {base g n cap : Nat} {ps : List Nat} {w : World} (h : w.ownsRow base 23 1 (.slice (some ⟨g, 0, none⟩) n cap) n (ps.map ptr)) (I J : Int) (i j : Nat) (hI : I = i) (hJ : J = j) (hi : i < n) (hj : j < n) :
    Calls Try.prog 15 #[.slice (some ⟨g, 0, none⟩) n cap, .int .i64 I, .int .i64 J] w fun e w' => e = .returned (.tuple #[]) ∧ w'.ownsRow base 23 1 (.slice (some ⟨g, 0, none⟩) n cap) n ((sw ps i j).map ptr) ∧ w.grownBy w' (some g) := by
  subst hI hJ
  refine (swap g n cap i j _ _ w (by omega) (by omega) (own_cell h i hi) (own_cell h j hj) (h.frozenAt i) (h.frozenAt j)).mono ?_
  rintro e w' ⟨rfl, rfl⟩
  have s1 := h.stored i (.pointer (some ⟨ps.getD j 0, 0, none⟩))
  have s2 := s1.1.stored j (.pointer (some ⟨ps.getD i 0, 0, none⟩))
  refine ⟨rfl, ?_, ?_⟩
  · have e : (sw ps i j).map ptr = ((ps.map ptr).set i (.pointer (some ⟨ps.getD j 0, 0, none⟩))).set j (.pointer (some ⟨ps.getD i 0, 0, none⟩)) := by
      simp [sw, List.map_set, ptr]
    rw [e]
    exact s2.1.drew
  · exact ⟨rfl, rfl, rfl, by simp [World.setCell], fun k hk hne => (s2.2.block k (by simpa [World.setCell] using hk) hne).trans (s1.2.block k hk hne)⟩

theorem ent_ne {w : World} {p : Nat} {x : Int} {base n : Nat} {v : Value} {xs : List Value} (h : w.heap[p]? = some (entryObj x)) (ho : w.ownsRow base 23 1 v n xs) : some p ≠ v.ownBlock := by
  intro e
  rcases ho.2 with ⟨rfl, _⟩ | ⟨g, cap, cur, rfl, _, hg, _⟩
  · simp [Value.ownBlock] at e
  · simp [Value.ownBlock] at e
    subst e
    rw [h] at hg
    simp [entryObj] at hg
theorem Ents.grown {w w' : World} {ps : List Nat} {zs : List Int} {row : Option Nat} (h : Ents w ps zs) (hg : w.grownBy w' row) (hne : ∀ i, i < ps.length → some (ps.getD i 0) ≠ row) : Ents w' ps zs := by
  intro i hi
  have e := h i hi
  rw [hg.block _ (Array.getElem?_eq_some_iff.1 e).1 (hne i hi)]
  exact e
theorem Ents.alloc {w : World} {ps : List Nat} {zs : List Int} (h : Ents w ps zs) (o : Obj) : Ents (w.alloc o) ps zs :=
  h.grown (World.grownBy_alloc w o none) (by simp)
theorem Ents.snoc {w : World} {ps : List Nat} {zs : List Int} (h : Ents w ps zs) (p : Nat) (hp : w.heap[p]? = some (entryObj (zs.getD ps.length 0))) : Ents w (ps ++ [p]) zs := by
  intro i hi
  by_cases h1 : i < ps.length
  · have := h i h1
    simpa [List.getD_eq_getElem?_getD, List.getElem?_append_left h1] using this
  · have h2 : i = ps.length := by simp at hi; omega
    subst h2
    simpa using hp
theorem rel1 {B k : Nat} {w wr w1 : World} {v v' : Value} {ps : List Nat} {zs : List Int} {cs : Array Value} (hps : ps.length = k) (hown : wr.ownsRow B 23 1 v k (ps.map ptr)) (he : Ents wr ps zs) (hb : Below B w wr) (hB : B ≤ wr.heap.size)
    (hown' : w1.ownsRow B 23 1 v' (k + 1) (ps.map ptr ++ [ptr wr.heap.size])) (hg : ((wr.alloc (entryObj (zs.getD k 0))).alloc (.cells cs 23)).grownBy w1 v.ownBlock) :
    w1.ownsRow B 23 1 v' (k + 1) ((ps ++ [wr.heap.size]).map ptr) ∧ Ents w1 (ps ++ [wr.heap.size]) zs ∧ Below B w w1 := by
  have h2 : ((wr.alloc (entryObj (zs.getD k 0))).alloc (.cells cs 23)).ownsRow B 23 1 v k (ps.map ptr) := (hown.alloc _).alloc _
  have e2 : Ents ((wr.alloc (entryObj (zs.getD k 0))).alloc (.cells cs 23)) (ps ++ [wr.heap.size]) zs := by
    refine ((he.alloc _).snoc _ ?_).alloc _
    rw [hps]; exact heap_alloc_new _ _
  refine ⟨by simpa using hown', e2.grown hg fun i hi => ent_ne (e2 i hi) h2, ((hb.alloc hB _).alloc (by simp; omega) _).grown hg (by simp; omega) fun k hk => (hown.lt k hk).1⟩

/-- WHAT STANDS BEHIND THE BUILDING: h owns the pointers qs, orig the pointers ps; each entry holds its number; nothing old has turned. -/
structure St (B : Nat) (w wr : World) (g c g2 c2 n : Nat) (ps qs : List Nat) (zs : List Int) : Prop where
  h : wr.ownsRow B 23 1 (.slice (some ⟨g, 0, none⟩) n c) n (qs.map ptr)
  o : wr.ownsRow B 23 1 (.slice (some ⟨g2, 0, none⟩) n c2) n (ps.map ptr)
  e : Ents wr ps zs
  b : Below B w wr
  ne : g ≠ g2
  le : B ≤ wr.heap.size
theorem St.drewN {B : Nat} {w wr : World} {g c g2 c2 n : Nat} {ps qs : List Nat} {zs : List Int} (s : St B w wr g c g2 c2 n ps qs zs) (m : Nat) : St B w (wr.drewN m) g c g2 c2 n ps qs zs :=
  ⟨s.h, s.o, s.e, ⟨s.b.os, s.b.tape, s.b.output, s.b.size, s.b.block⟩, s.ne, s.le⟩
theorem St.swap {B : Nat} {w wr w1 : World} {g c g2 c2 n : Nat} {ps qs qs' : List Nat} {zs : List Int} (s : St B w wr g c g2 c2 n ps qs zs) (h : w1.ownsRow B 23 1 (.slice (some ⟨g, 0, none⟩) n c) n (qs'.map ptr)) (hg : wr.grownBy w1 (some g)) : St B w w1 g c g2 c2 n ps qs' zs := by
  refine ⟨h, s.o.kept hg (.inr (by simpa [Value.ownBlock] using Ne.symm s.ne)), s.e.grown hg fun i hi => ?_, s.b.grown hg s.le fun k hk => ?_, s.ne, Nat.le_trans s.le hg.size⟩
  · exact ent_ne (s.e i hi) s.h
  · cases hk; exact (s.h.lt _ rfl).1

theorem bytes12 (a : Option Addr) (len cap : Nat) (w : World) (h : len ≤ maxLen) :
    Calls Try.prog 12 #[.slice a len cap] w fun e w' => (∃ b : Bool, e = .returned (.bool b)) ∧ w = w' := by
  unfold maxLen at h
  go_enter Try.func12, Try.ntmps12
  go_wp2
  all_goals
    go_ret
    exact ⟨⟨_, rfl⟩, rfl⟩
theorem Try.info23 : (Try.prog.info? 23).map (fun i => (i.zero, i.size, i.bytes)) = some (some (.pointer none), 1, 8) := by kernel_rfl
theorem ptrs_oneCell (ps : List Nat) : ∀ u ∈ ps.map ptr, u.oneCell' = true := by
  intro u hu
  obtain ⟨p, _, rfl⟩ := List.mem_map.1 hu
  rfl
theorem own_some {w : World} {base n : Nat} {v : Value} {xs : List Value} (h : w.ownsRow base 23 1 v n xs) (hn : 0 < n) : ∃ g c, v = .slice (some ⟨g, 0, none⟩) n c ∧ base ≤ g ∧ g < w.heap.size := by
  rcases h.2 with ⟨_, h0⟩ | ⟨g, cap, cur, rfl, hb, hg, _⟩
  · omega
  · exact ⟨g, cap, rfl, hb, (Array.getElem?_eq_some_iff.1 hg).1⟩
theorem made {B : Nat} {w wr w1 : World} {g c n : Nat} {v' : Value} {ps : List Nat} {zs : List Int} (hn : 0 < n) (hown : wr.ownsRow B 23 1 (.slice (some ⟨g, 0, none⟩) n c) n (ps.map ptr)) (he : Ents wr ps zs) (hb : Below B w wr) (hB : B ≤ wr.heap.size)
    (hown' : w1.ownsRow wr.heap.size 23 1 v' n (ps.map ptr)) (hg : wr.grownBy w1 none) : ∃ g2 c2, v' = .slice (some ⟨g2, 0, none⟩) n c2 ∧ St B w w1 g c g2 c2 n ps (rotk ps 0) zs := by
  obtain ⟨g2, c2, rfl, hge, _⟩ := own_some hown' hn
  have hlt := (hown.lt g rfl).2
  refine ⟨g2, c2, rfl, hown.kept hg (.inr (by simp [Value.ownBlock])), ⟨hown'.1, ?_⟩, he.grown hg (by simp), hb.grown hg hB (by simp), by omega, Nat.le_trans hB hg.size⟩
  rcases hown'.2 with ⟨h, _⟩ | ⟨g', cap', cur, h, hb', r⟩
  · simp at h
  · exact .inr ⟨g', cap', cur, h, by omega, r⟩

/-- What the third loop reads at place m. -/
theorem look {B : Nat} {w wr : World} {g c g2 c2 n b off m : Nat} {ps : List Nat} {zs : List Int} (s : St B w wr g c g2 c2 n ps (rotk ps (n - 1)) zs) (hps : ps.length = n) (hm : m < n) (hbB : b < B) (hz : n ≤ zs.length)
    (Hc : Hid (∀ i, i < zs.length → w.cell? ⟨b, off + i, none⟩ = some (.int .u64 (zs.getD i 0)))) :
    ∃ r a : Nat, ∃ x : Int, ((m : Int) + 1).tmod (n : Int) = (r : Int) ∧ ((m : Int) + 1) % (n : Int) = (r : Int) ∧ (r : Int) < (n : Int) ∧ wr.cell? ⟨g, m, none⟩ = some (.pointer (some ⟨a, 0, none⟩)) ∧ wr.cell? ⟨g2, r, none⟩ = some (.pointer (some ⟨a, 0, none⟩)) ∧
      wr.cell? ⟨a, 18, none⟩ = some (.int .u64 x) ∧ wr.cell? ⟨b, off + r, none⟩ = some (.int .u64 x) := by
  have hr : (m + 1) % n < n := Nat.mod_lt _ (by omega)
  refine ⟨(m + 1) % n, ps.getD ((m + 1) % n) 0, zs.getD ((m + 1) % n) 0, by rw [Int.tmod_eq_emod_of_nonneg (by omega), Int.natCast_emod]; rfl, by rw [Int.natCast_emod]; rfl, by omega, ?_, own_cell s.o _ hr, entry_cell (s.e _ (by omega)), (s.b.cell (by exact hbB)).trans (Hc.out _ (by omega))⟩
  have h := own_cell s.h m hm
  rw [h]
  have e := rotk_last ps m (by omega)
  rw [hps] at e
  rw [e]

set_option maxRecDepth 100000 in
set_option maxHeartbeats 1000000 in
theorem walk_pos (b off len cap : Nat) (zs : List Int) (w : World) (hpos : 0 < len) (hl : len ≤ 65536) (hz : len ≤ zs.length)
    (hc : ∀ i, i < zs.length → w.cell? ⟨b, off + i, none⟩ = some (.int .u64 (zs.getD i 0))) :
    Calls Try.prog 5 #[.slice (some ⟨b, off, none⟩) len cap] w fun e w' => e = .returned (.bool true) ∧ Below w.heap.size w w' := by
  have hbB : b < w.heap.size := World.block_lt_of_cell? w _ (hc 0 (by omega))
  obtain ⟨i0, hi, hz0, hz1, hz2⟩ := info_parts Try.info23
  have Hc : Hid (∀ i, i < zs.length → w.cell? ⟨b, off + i, none⟩ = some (.int .u64 (zs.getD i 0))) := hc
  clear hc
  obtain ⟨B, hB⟩ : ∃ B, B = w.heap.size := ⟨_, rfl⟩
  rw [← hB] at hbB ⊢
  have hBle : B ≤ w.heap.size := by omega
  clear hB
  go_enter Try.func5, Try.ntmps5
  go_wp2_with fail
  refine (bytes12 _ _ _ _ (by unfold maxLen; omega)).mono ?_
  rintro e w' ⟨⟨bb, rfl⟩, rfl⟩
  cases bb
  · go_wp2_with fail
    go_ret
    exact ⟨rfl, Below.refl _ _⟩
  go_wp2_with (go_at_call 13; refine (z13 _).mono ?_; rintro e w'' ⟨rfl, rfl⟩)
  go_loopw [4, 5] (fun h i wr => ∃ (k : Nat) (ps : List Nat), k ≤ len ∧ i = .int .i64 k ∧ ps.length = k ∧ wr.ownsRow B 23 1 h k (ps.map ptr) ∧ Ents wr ps zs ∧ Below B w wr) (fun _ i _ => len - (intOf i).toNat)
  case atStart => exact ⟨0, [], Nat.zero_le _, rfl, rfl, World.ownsRow_nil _ _ _ _, fun i hi => absurd hi (by simp), Below.refl _ _⟩
  case round =>
    obtain ⟨k, ps, hk, rfl, hps, hown, hents, hbel⟩ := hrel
    have hBr : B ≤ wr.heap.size := Nat.le_trans hBle hbel.size
    by_cases hlt : k < len
    · have hcx : wr.cell? ⟨b, off + k, none⟩ = some (.int .u64 (zs.getD k 0)) := (hbel.cell (by exact hbB)).trans (Hc.out k (by omega))
      go_wp2_with (first
        | (go_at_call 14; refine (z14 _ _).mono ?_; rintro e w1 ⟨rfl, rfl⟩)
        | (at_builtin; (refine wpList_append_own _ rfl _ _ 39 rfl B 23 i0 (.pointer none) 1 8 Try.underlying39 hi hz0 hz1 hz2 rfl (by decide) _ _ _ rfl ((hown.alloc _).alloc _) ⟨wr.heap.size + 1, 0, none⟩ 1 1 [ptr wr.heap.size] rfl rfl ?c1 ?c2 ?c3 ?c4 ?c5 ?_)))
      case c1 =>
        intro j u hj
        match j, hj with
        | 0, hj => simp at hj; subst hj; simp [Addr.add, ptr]
      case c2 => intro u hu; simp at hu; subst hu; rfl
      case c3 => unfold maxLen; omega
      case c4 => omega
      case c5 => simp; omega
      intro v' w1 hown' hgrow _
      have R := rel1 hps hown hents hbel hBr hown' (by simpa using hgrow)
      clear hown' hgrow hown hents hbel hcx
      go_wp2
      go_roundw
      case rel => exact ⟨k + 1, _, by omega, by go_num, by simp [hps], R.1, R.2.1, R.2.2⟩
      case measure => simp [intOf]; omega
    · have hke : k = len := by omega
      subst hke
      obtain ⟨g, c, hv, hg1, hg2⟩ := own_some hown hpos
      subst hv
      go_wp2_with (first
        | (go_at_call 13; refine (z13 _).mono ?_; rintro e w1 ⟨rfl, rfl⟩)
        | (at_builtin; (refine wpList_append_own _ rfl _ _ 39 rfl wr.heap.size 23 i0 (.pointer none) 1 8 Try.underlying39 hi hz0 hz1 hz2 rfl (by decide) _ _ _ rfl (World.ownsRow_nil _ _ _ _) ⟨g, 0, none⟩ k c (ps.map ptr) rfl ?c1 ?c2 ?c3 ?c4 ?c5 ?c6 ?_)))
      case c1 => simp [hps]
      case c2 => exact hown.cells rfl
      case c3 => exact ptrs_oneCell ps
      case c4 => unfold maxLen; omega
      case c5 => omega
      case c6 => exact Nat.le_refl _
      intro v' w1 hown' hgrow _
      obtain ⟨g2, c2, hv', hst⟩ := made hpos hown hents hbel hBr (by simpa using hown') hgrow
      subst hv'
      clear hown' hgrow hown hents hbel hg1 hg2
      go_wp2
      go_loopw [7] (fun i wr => ∃ k' : Nat, k' + 1 ≤ k ∧ i = .int .i64 k' ∧ St B w wr g c g2 c2 k ps (rotk ps k') zs) (fun i _ => k - (intOf i).toNat)
      case atStart => exact ⟨0, by omega, rfl, hst⟩
      case round =>
        rename_i wr2
        obtain ⟨k', hk', rfl, hst2⟩ := hrel
        clear hst
        by_cases hlt2 : k' + 1 < k
        · go_wp2_with fail
          refine (swap_own hst2.h _ _ k' (k' + 1) rfl (by omega) (by omega) (by omega)).mono ?_
          rintro e w2 ⟨rfl, ho, hg⟩
          have R := hst2.swap ho hg
          clear ho hg hst2
          go_wp2
          go_roundw
          case rel => exact ⟨k' + 1, by omega, by go_num, R⟩
          case measure => simp [intOf]; omega
        · have hke : k' = k - 1 := by omega
          subst hke
          clear hlt hlt2 hk'
          go_wp2
          go_loopw [8] (fun i wr => ∃ m : Nat, m ≤ k ∧ i = .int .i64 m ∧ St B w wr g c g2 c2 k ps (rotk ps (k - 1)) zs) (fun i _ => k - (intOf i).toNat)
          case atStart => exact ⟨0, by omega, rfl, hst2⟩
          case round =>
            obtain ⟨m, hm, rfl, hst⟩ := hrel
            clear hst2
            by_cases hlt : m < k
            · obtain ⟨r, a, x, hr, hr', hrk, f1, f2, f3, f4⟩ := look hst hps hlt hbB hz Hc
              have hk2 : ¬ k = 0 := by omega
              have hneq := neq_same
              have hrk2 : r < k := by omega
              go_wp2
              refine wp_region_quiet_lit (by kernel_rfl) (by kernel_rfl) ?_
              repeat (first | go_big_quiet_step ((go_at_call 16; exact Calls.quiet_of_same (z16n x a wr f3 _))) | quiet_step ((go_at_call 16; exact Calls.quiet_of_same (z16n x a wr f3 _))))
              refine wpQuiet_nil ?_
              intro _ hw'
              obtain ⟨nq, hw''⟩ := hw'
              subst hw''
              have R := hst.drewN nq
              clear hst f1 f2 f3 f4 hneq
              go_wp2
              go_roundw
              case rel => exact ⟨m + 1, by omega, by go_num, R⟩
              case measure => simp [intOf]; omega
            · go_wp2
              clear hlt hm
              go_loopw [9] (fun i wr => ∃ q : Int, -1 ≤ q ∧ q + 2 ≤ (k : Int) ∧ i = .int .i64 q ∧ St B w wr g c g2 c2 k ps (rotk ps (q + 1).toNat) zs) (fun i _ => (intOf i + 1).toNat)
              case atStart => exact ⟨(k : Int) - 2, by omega, by omega, rfl, by rw [show ((k : Int) - 2 + 1).toNat = k - 1 by omega]; exact hst⟩
              case round =>
                obtain ⟨q, hq1, hq2, rfl, hst4⟩ := hrel
                clear hst
                by_cases hq : 0 ≤ q
                · obtain ⟨s, rfl⟩ := Int.eq_ofNat_of_zero_le hq
                  go_wp2_with fail
                  refine (swap_own hst4.h _ _ (s + 1) s (by omega) rfl (by omega) (by omega)).mono ?_
                  rintro e w2 ⟨rfl, ho, hg⟩
                  have R := hst4.swap ho hg
                  rw [show ((s : Int) + 1).toNat = s + 1 by omega, rotk_back ps s (by omega)] at R
                  clear ho hg hst4
                  go_wp2
                  go_roundw
                  case rel => exact ⟨(s : Int) - 1, by omega, by omega, by go_num, by rw [show ((s : Int) - 1 + 1).toNat = s by omega]; exact R⟩
                  case measure => simp [intOf]
                · have hq0 : q = -1 := by omega
                  subst hq0
                  have hst5 : St B w _ g c g2 c2 k ps ps zs := hst4
                  clear hst4
                  go_wp2
                  go_loopw [10] (fun i wr => ∃ m : Nat, m ≤ k ∧ i = .int .i64 m ∧ St B w wr g c g2 c2 k ps ps zs) (fun i _ => k - (intOf i).toNat)
                  case atStart => exact ⟨0, by omega, rfl, hst5⟩
                  case round =>
                    obtain ⟨m, hm, rfl, hst⟩ := hrel
                    clear hst5
                    by_cases hlt : m < k
                    · have f1 := own_cell hst.h m hlt
                      have f2 := own_cell hst.o m hlt
                      generalize ps.getD m 0 = a at f1 f2
                      have hneq := neq_same
                      go_wp2
                      go_quiet (fail)
                      have R := hst.drewN nq
                      clear hst f1 f2 hneq
                      go_wp2
                      go_roundw
                      case rel => exact ⟨m + 1, by omega, by go_num, R⟩
                      case measure => simp [intOf]; omega
                    · go_wp2
                      go_ret
                      exact ⟨rfl, hst.b⟩

set_option maxRecDepth 100000 in
set_option maxHeartbeats 1000000 in
theorem walk_zero (a : Option Addr) (cap : Nat) (w : World) :
    Calls Try.prog 5 #[.slice a 0 cap] w fun e w' => e = .returned (.bool true) ∧ Below w.heap.size w w' := by
  obtain ⟨i0, hi, hz0, hz1, hz2⟩ := info_parts Try.info23
  go_enter Try.func5, Try.ntmps5
  go_wp2_with fail
  refine (bytes12 _ _ _ _ (by unfold maxLen; omega)).mono ?_
  rintro e w' ⟨⟨bb, rfl⟩, rfl⟩
  cases bb
  · go_wp2_with fail
    go_ret
    exact ⟨rfl, Below.refl _ _⟩
  go_wp2_with (go_at_call 13; refine (z13 _).mono ?_; rintro e w'' ⟨rfl, rfl⟩)
  go_loop [4, 5] (fun h i => h = .slice none 0 0 ∧ i = .int .i64 0) (fun _ _ => 0)
  case atStart => exact ⟨rfl, rfl⟩
  case round =>
    obtain ⟨rfl, rfl⟩ := hrel
    go_wp2_with (first
      | (go_at_call 13; refine (z13 _).mono ?_; rintro e w1 ⟨rfl, rfl⟩)
      | (at_builtin; (refine wpList_append_own_none rfl _ _ 39 rfl 0 23 i0 1 Try.underlying39 hi _ _ _ rfl (World.ownsRow_nil _ _ _ _) rfl ?_)))
    go_loop [7] (fun i => i = .int .i64 0) (fun _ => 0)
    case atStart => rfl
    case round =>
      obtain rfl := hrel
      go_wp2
      go_loop [8] (fun i => i = .int .i64 0) (fun _ => 0)
      case atStart => rfl
      case round =>
        obtain rfl := hrel
        go_wp2
        go_loop [9] (fun i => i = .int .i64 (-2)) (fun _ => 0)
        case atStart => rfl
        case round =>
          obtain rfl := hrel
          go_wp2
          go_loop [10] (fun i => i = .int .i64 0) (fun _ => 0)
          case atStart => rfl
          case round =>
            obtain rfl := hrel
            go_wp2
            go_ret
            exact ⟨rfl, Below.refl _ _⟩

set_option maxRecDepth 100000 in
theorem walk_long (a : Option Addr) (len cap : Nat) (w : World) (h : 65536 < len) (hm : len ≤ maxLen) :
    Calls Try.prog 5 #[.slice a len cap] w fun e w' => e = .returned (.bool true) ∧ Below w.heap.size w w' := by
  have hm' := hm
  unfold maxLen at hm'
  go_enter Try.func5, Try.ntmps5
  go_wp2_with fail
  refine (bytes12 _ _ _ _ hm).mono ?_
  rintro e w' ⟨⟨bb, rfl⟩, rfl⟩
  cases bb
  · go_wp2_with fail
    go_ret
    exact ⟨rfl, Below.refl _ _⟩
  · go_wp2_with fail
    go_ret
    exact ⟨rfl, Below.refl _ _⟩

set_option linter.unusedVariables false
theorem own : ownKnob Try.prog.godebug = none := by kernel_rfl
theorem laidOut : laidOutB Try.prog = true := by kernel_rfl

/-- WHAT THE WALK IS TOLD OF A SLICE OF INTEGERS THAT CAME IN: it is nil; or it leads to a row of 'cap' cells, the numbers 'zs' (the first 'len' are its elements, the rest its spare room), each fitting its kind. -/
def IsRow (k : IntKind) (w : World) (a : Option Addr) (len cap : Nat) (zs : List Int) : Prop :=
  (a = none ∧ len = 0 ∧ cap = 0 ∧ zs = []) ∨
  ∃ x, a = some x ∧ len ≤ cap ∧ cap ≤ maxLen ∧ zs.length = cap ∧ (∀ i, i < zs.length → w.cell? (x.add i) = some (.int k (zs.getD i 0))) ∧ ∀ n ∈ zs, (Lit.int k n).wf = true


theorem walk (a0 : Option Addr) (len0 cap0 : Nat) (z0 : List Int) (w : World) (w0 : IsRow .u64 w a0 len0 cap0 z0) :
    Calls Try.prog 5 #[.slice a0 len0 cap0] w fun e w' => e = .returned (.bool true) ∧ Below w.heap.size w w' := by
  rcases w0 with ⟨rfl, rfl, rfl, rfl⟩ | ⟨x, rfl, hlc, hcm, hzl, hcell, _⟩
  · exact walk_zero _ _ _
  · by_cases h0 : len0 = 0
    · subst h0; exact walk_zero _ _ _
    · by_cases h1 : len0 ≤ 65536
      · obtain ⟨b, off, spot⟩ := x
        have hspot : spot = none := by simpa [Addr.add] using World.cell?_spot (hcell 0 (by omega))
        subst hspot
        exact walk_pos b off len0 cap0 z0 w (by omega) h1 (by omega) fun i hi => by rw [← add_plain]; exact hcell i hi
      · exact walk_long _ _ _ _ (by omega) (by omega)

/-! ### THE ROW's STEP: WRITTEN OUT: LEAVE IT -/
set_option maxRecDepth 100000 in
theorem lifted (os : Os) (started : os.Started) (H : Type) (enc : TypeId × Value → H) :
    ReturnsInHanded {} Try.checked os 5 .any (Rows.fnSeqHeapAdjacentSwapsRotateLeftSpec.pre6 enc Try.prog Try.f5 Rows.fnSeqHeapAdjacentSwapsRotateLeftRow.domain false) (Rows.fnSeqHeapAdjacentSwapsRotateLeftSpec.post enc Try.prog Try.f5 false true false false) := by
  refine returnsInHanded_of_change (C := Try.checked) own started (by kernel_rfl) Try.func5
    (ChangeSpec.witness6 (enc := enc) (C := Try.checked) false ⟨#[], #[.slice none 0 0], []⟩ 8 (by kernel_rfl) (by kernel_rfl) (by kernel_rfl) (by kernel_rfl)) ?_
  intro W base args ds gs before hval0 hW hcnd _
  have hval : ∀ (j : Nat) t v, Try.f5.params[j]? = some t → args[j]? = some v → Value.okWide Try.prog W .any base t v := hval0
  have hW' := hW
  obtain ⟨p, q, hA0, hV, rfl, hfz, hnd⟩ := hW
  have hA : DataW.TrodAll enc Try.prog W 0 (fun _ => true) true Try.f5.params.toList args.toList ds p := hA0
  rw [Try.params5] at hA hval
  obtain ⟨v0, vs0, d0, ds0, p0, q0, hargs, rfl, rfl, h0, r0⟩ := trodAll_cons hA
  obtain ⟨rfl, rfl, rfl⟩ := trodAll_nil r0
  obtain rfl : args = #[v0] := by cases args; simp_all
  obtain ⟨rfl, rfl⟩ := trodVars_none hV
  obtain ⟨a0, len0, cap0, rfl⟩ := okWide_slice Try.underlying36 (hval 0 36 v0 rfl rfl)
  have k0 := h0
  have lt0 : ∀ x ∈ p0, x.block < W.heap.size := by obtain ⟨m, hm⟩ := k0; exact DataW.trod_lt m _ _ _ hm
  obtain ⟨z0, w0⟩ : ∃ zs, IsRow .u64 W a0 len0 cap0 zs := by
    obtain ⟨fuel, hf⟩ := h0
    rcases open_ints Try.underlying36 Try.underlying42 (by kernel_rfl) hf with ⟨hcs, _⟩ | ⟨x, l, c, zs, hcs, _, hl, hm, hz, _, hcell, hwz⟩
    · simp [Value.cells] at hcs
      obtain ⟨rfl, rfl, rfl⟩ := hcs
      exact ⟨[], .inl ⟨rfl, rfl, rfl, rfl⟩⟩
    · simp [Value.cells] at hcs
      obtain ⟨rfl, rfl, rfl⟩ := hcs
      exact ⟨zs, .inr ⟨_, rfl, hl, hm, by simpa using hz, hcell, hwz⟩⟩
  clear hA0 hval0
  refine (walk a0 len0 cap0 z0 W w0).mono fun e W' ⟨he, bel⟩ => ?_
  subst he
  exact ⟨_, rfl, _, _, _, [], _, [], hW', trodAll_mk1 (shut_bool Try.underlying4 _), (trodAll_cons_mk (Below.trod laidOut (by kernel_rfl) (of_decide_eq_true (by kernel_rfl)) k0 bel lt0) trodAll_mk0), rfl, bel.frame _, fun h => by cases h⟩

theorem over : Rows.fnSeqHeapAdjacentSwapsRotateLeftRow.holds Try.pinned (OpenSpec.ofChange Rows.fnSeqHeapAdjacentSwapsRotateLeftSpec) :=
  OpenClaim.holds_of_wide 5 Try.f5 rfl rfl rfl rfl rfl rfl rfl ⟨rfl, rfl, rfl, rfl, rfl⟩ rfl rfl rfl rfl rfl (by kernel_rfl) Try.func5 (by kernel_rfl)
    (of_decide_eq_true (by kernel_rfl)) (by unfold Func.isWrapper; first | (rw [if_pos (by decide +kernel)]; kernel_rfl) | (rw [if_neg (by decide +kernel)]; exact ⟨rfl, rfl⟩))
    (fun os started H enc _ => lifted os started H enc)

/-- ████ THE STATEMENT ████ -/
theorem proved : Rows.FnSeqHeapAdjacentSwapsRotateLeftSaid := over
end Go.Proofs.Qxb6612441a.fnSeqHeapAdjacentSwapsRotateLeft
