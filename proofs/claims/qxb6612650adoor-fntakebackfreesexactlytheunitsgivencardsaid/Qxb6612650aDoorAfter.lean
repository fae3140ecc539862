import Derived.Test.Qxb6612650aDoorBuild
namespace Go.Proofs.Qxb6612650aDoor.tb
open Go.ChangeShapes Go.WideShapes Go.ChangeAt Go.RowKit

theorem One.drewN {X : Nat} {w w' : World} (h : One X w w') (n : Nat) : One X w (w'.drewN n) := ⟨h.os, h.tape, h.output, h.size, h.block⟩
/-- Which cells have been taken: nil (none), or a row of bools. -/
def Tk (w : World) (n : Nat) (ta : Option Addr) (tf : Nat → Bool) : Prop := ∀ i, i < n → (ta = none ∧ tf i = false) ∨ ∃ b, ta = some ⟨b, 0, none⟩ ∧ w.cell? ⟨b, i, none⟩ = some (.bool (tf i))

set_option maxRecDepth 100000 in
set_option maxHeartbeats 2000000 in
theorem z10_0 {B : Nat} (n0 ph : Option Addr) (bs bt bg o c : Nat) (a : Option Addr) (k0 : Nat) (l : List Int) (ta : Option Addr) (tn tc : Nat) (tf : Nat → Bool) (os : List (Option Nat)) (w : World) (hl : l.length ≤ 1048576) (hR : Rd B w .u8 a l)
    (hT : Tk w l.length ta tf) (htn : ta ≠ none → tn = l.length) (hg : w.cell? ⟨bg, 16, none⟩ = some (.slice (some ⟨o, 0, none⟩) l.length c)) (hos : ∀ i, i < l.length → w.cell? ⟨o, i, none⟩ = some (pv (os.getD i none))) (heq : ∀ i, i < l.length → os.getD i none = if tf i then none else code bs bt (l.getD i 0)) :
    Calls Tryd.prog 10 #[.agg #[.pointer n0, .pointer (some ⟨bs, 0, none⟩), .pointer (some ⟨bt, 0, none⟩), .pointer (some ⟨bg, 0, none⟩), .pointer ph], .int .i64 0, .slice a l.length k0, .slice ta tn tc] w fun e w' => e = .returned (.bool true) ∧ Hid (∀ X, One X w w') := by
  have HR : Hid (Rd B w .u8 a l) := hR
  have HT : Hid (Tk w l.length ta tf) := hT
  have Htn : Hid (ta ≠ none → tn = l.length) := htn
  have Hos : Hid (∀ i, i < l.length → w.cell? ⟨o, i, none⟩ = some (pv (os.getD i none))) := hos
  have Heq : Hid (∀ i, i < l.length → os.getD i none = if tf i then none else code bs bt (l.getD i 0)) := heq
  have HO : Hid (∀ X, One X w (w.alloc (.cells #[.pointer n0, .pointer (some ⟨bs, 0, none⟩), .pointer (some ⟨bt, 0, none⟩), .pointer (some ⟨bg, 0, none⟩), .pointer ph] 34))) := fun X => (One.refl X w).alloc _
  have hst : (w.alloc (.cells #[.pointer n0, .pointer (some ⟨bs, 0, none⟩), .pointer (some ⟨bt, 0, none⟩), .pointer (some ⟨bg, 0, none⟩), .pointer ph] 34)).heap[w.heap.size]? = some (stObj (.pointer n0) (.pointer (some ⟨bs, 0, none⟩)) (.pointer (some ⟨bt, 0, none⟩)) (.pointer (some ⟨bg, 0, none⟩)) (.pointer ph)) := heap_at _ _ _ rfl
  have Hst : Hid _ := hst
  clear hR hT htn hos heq hst
  have hnq := fun (W : World) (a : Option Addr) (n c : Nat) => run_neq_slice_nil_any (P := Tryd.prog) W 25 4 a n c 0 0 Tryd.underlying25
  have hne := neq31
  generalize hn : l.length = n at *
  have Hn : Hid (l.length = n) := hn
  clear hn
  go_enter Tryd.func10, Tryd.ntmps10
  go_wp2_with fail
  generalize w.alloc (.cells #[.pointer n0, .pointer (some ⟨bs, 0, none⟩), .pointer (some ⟨bt, 0, none⟩), .pointer (some ⟨bg, 0, none⟩), .pointer ph] 34) = W at HO Hst ⊢
  go_loopw [9] (fun i wr => ∃ k m : Nat, k ≤ n ∧ i = .int .i64 k ∧ wr = W.drewN m) (fun i _ => n - (intOf i).toNat)
  case atStart => exact ⟨0, 0, Nat.zero_le _, rfl, rfl⟩
  case round =>
    obtain ⟨k, m, hk, rfl, rfl⟩ := hrel
    by_cases hlt : k < n
    · have hkl : k < l.length := by rw [Hn.out]; exact hlt
      obtain ⟨b, off, ha, hbB, hc⟩ := HR.out k hkl
      have hcx : (W.drewN m).cell? ⟨b, off + k, none⟩ = some (.int .u8 (l.getD k 0)) := (HO.out (b + 1)).cell hc (by omega)
      have hgx : (W.drewN m).cell? ⟨bg, 16, none⟩ = some (.slice (some ⟨o, 0, none⟩) n c) := (HO.out (bg + 1)).cell hg (by omega)
      have hox : (W.drewN m).cell? ⟨o, k, none⟩ = some (pv (os.getD k none)) := (HO.out (o + 1)).cell (Hos.out k hlt) (by omega)
      have he := Heq.out k hlt
      have s1 : (W.drewN m).cell? ⟨w.heap.size, 1, none⟩ = _ := (st_cell Hst.out).2.1
      have s2 : (W.drewN m).cell? ⟨w.heap.size, 2, none⟩ = _ := (st_cell Hst.out).2.2.1
      have s3 : (W.drewN m).cell? ⟨w.heap.size, 3, none⟩ = _ := (st_cell Hst.out).2.2.2.1
      have hd : ∀ q, (W.drewN m).drewN q = W.drewN (m + q) := fun q => World.drewN_drewN _ _ _
      have Hd : Hid (∀ q, (W.drewN m).drewN q = W.drewN (m + q)) := hd
      have ht := HT.out k hlt
      have htc : ∀ b, ta = some ⟨b, 0, none⟩ → w.cell? ⟨b, k, none⟩ = some (.bool (tf k)) → (W.drewN m).cell? ⟨b, k, none⟩ = some (.bool (tf k)) := fun b _ h => (HO.out (b + 1)).cell h (by omega)
      clear hkl hc hd
      subst ha
      generalize W.drewN m = W1 at hcx hgx hox s1 s2 s3 htc Hd ⊢
      generalize l.getD k 0 = x at hcx he
      generalize hcd : code bs bt x = cd at he
      generalize os.getD k none = ov at hox he
      obtain ⟨p, hp⟩ : ∃ p, pv cd = .pointer p := ⟨_, rfl⟩
      have Hp : Hid (pv (code bs bt x) = .pointer p) := by rw [hcd]; exact hp
      rcases ht with ⟨hta, htf⟩ | ⟨tb, hta, htcell⟩
      · rw [htf] at he
        have he2 : ov = cd := by simpa using he
        rw [he2, hp] at hox
        clear he he2 hcd hp htc htf
        subst hta
        go_wp2_with fail
        go_quiet ((go_at_call 25; exact Calls.quiet_of_same (z25 bs bt x _)))
        rw [Hp.out]
        go_wp2_with (go_at_call 13; refine (z13_0 bg o n c k p (W1.drewN nq) hgx hlt hox).mono ?_; rintro e w2 ⟨rfl, rfl⟩)
        go_roundw
        case rel => exact ⟨k + 1, m + nq, by omega, by go_num, Hd.out nq⟩
        case measure => simp [intOf]; omega
      · have htx := htc tb hta htcell
        have htn' : tn = n := Htn.out (by rw [hta]; simp)
        subst htn'
        clear htc htcell
        subst hta
        cases htf : tf k
        · rw [htf] at he htx
          have he2 : ov = cd := by simpa using he
          rw [he2, hp] at hox
          clear he he2 hcd hp htf
          go_wp2_with fail
          go_quiet ((go_at_call 25; exact Calls.quiet_of_same (z25 bs bt x _)))
          rw [Hp.out]
          go_wp2_with (go_at_call 13; refine (z13_0 bg o tn c k p (W1.drewN nq) hgx hlt hox).mono ?_; rintro e w2 ⟨rfl, rfl⟩)
          go_roundw
          case rel => exact ⟨k + 1, m + nq, by omega, by go_num, Hd.out nq⟩
          case measure => simp [intOf]; omega
        · rw [htf] at he htx
          have he2 : ov = none := by simpa using he
          rw [he2] at hox
          have hox2 : W1.cell? ⟨o, k, none⟩ = some (.pointer none) := hox
          clear he he2 hcd hp htf hox
          go_wp2_with fail
          go_quiet ((go_at_call 25; exact Calls.quiet_of_same (z25 bs bt x _)))
          rw [Hp.out]
          go_wp2_with (go_at_call 13; refine (z13_0 bg o tn c k none (W1.drewN nq) hgx hlt hox2).mono ?_; rintro e w2 ⟨rfl, rfl⟩)
          go_roundw
          case rel => exact ⟨k + 1, m + nq, by omega, by go_num, Hd.out nq⟩
          case measure => simp [intOf]; omega
    · go_wp2
      go_ret
      exact ⟨rfl, fun X => (HO.out X).drewN m⟩

set_option maxRecDepth 100000 in
set_option maxHeartbeats 2000000 in
theorem z10_1 {B : Nat} (n0 ph : Option Addr) (bs bt bg o c : Nat) (a : Option Addr) (k0 : Nat) (l : List Int) (ta : Option Addr) (tn tc : Nat) (tf : Nat → Bool) (os : List (Option Nat)) (w : World) (hl : l.length ≤ 1048576) (hR : Rd B w .u8 a l)
    (hT : Tk w l.length ta tf) (htn : ta ≠ none → tn = l.length) (hg : w.cell? ⟨bg, 17, none⟩ = some (.slice (some ⟨o, 0, none⟩) l.length c)) (hos : ∀ i, i < l.length → w.cell? ⟨o, i, none⟩ = some (pv (os.getD i none))) (heq : ∀ i, i < l.length → os.getD i none = if tf i then none else code bs bt (l.getD i 0)) :
    Calls Tryd.prog 10 #[.agg #[.pointer n0, .pointer (some ⟨bs, 0, none⟩), .pointer (some ⟨bt, 0, none⟩), .pointer (some ⟨bg, 0, none⟩), .pointer ph], .int .i64 1, .slice a l.length k0, .slice ta tn tc] w fun e w' => e = .returned (.bool true) ∧ Hid (∀ X, One X w w') := by
  have HR : Hid (Rd B w .u8 a l) := hR
  have HT : Hid (Tk w l.length ta tf) := hT
  have Htn : Hid (ta ≠ none → tn = l.length) := htn
  have Hos : Hid (∀ i, i < l.length → w.cell? ⟨o, i, none⟩ = some (pv (os.getD i none))) := hos
  have Heq : Hid (∀ i, i < l.length → os.getD i none = if tf i then none else code bs bt (l.getD i 0)) := heq
  have HO : Hid (∀ X, One X w (w.alloc (.cells #[.pointer n0, .pointer (some ⟨bs, 0, none⟩), .pointer (some ⟨bt, 0, none⟩), .pointer (some ⟨bg, 0, none⟩), .pointer ph] 34))) := fun X => (One.refl X w).alloc _
  have hst : (w.alloc (.cells #[.pointer n0, .pointer (some ⟨bs, 0, none⟩), .pointer (some ⟨bt, 0, none⟩), .pointer (some ⟨bg, 0, none⟩), .pointer ph] 34)).heap[w.heap.size]? = some (stObj (.pointer n0) (.pointer (some ⟨bs, 0, none⟩)) (.pointer (some ⟨bt, 0, none⟩)) (.pointer (some ⟨bg, 0, none⟩)) (.pointer ph)) := heap_at _ _ _ rfl
  have Hst : Hid _ := hst
  clear hR hT htn hos heq hst
  have hnq := fun (W : World) (a : Option Addr) (n c : Nat) => run_neq_slice_nil_any (P := Tryd.prog) W 25 4 a n c 0 0 Tryd.underlying25
  have hne := neq31
  generalize hn : l.length = n at *
  have Hn : Hid (l.length = n) := hn
  clear hn
  go_enter Tryd.func10, Tryd.ntmps10
  go_wp2_with fail
  generalize w.alloc (.cells #[.pointer n0, .pointer (some ⟨bs, 0, none⟩), .pointer (some ⟨bt, 0, none⟩), .pointer (some ⟨bg, 0, none⟩), .pointer ph] 34) = W at HO Hst ⊢
  go_loopw [9] (fun i wr => ∃ k m : Nat, k ≤ n ∧ i = .int .i64 k ∧ wr = W.drewN m) (fun i _ => n - (intOf i).toNat)
  case atStart => exact ⟨0, 0, Nat.zero_le _, rfl, rfl⟩
  case round =>
    obtain ⟨k, m, hk, rfl, rfl⟩ := hrel
    by_cases hlt : k < n
    · have hkl : k < l.length := by rw [Hn.out]; exact hlt
      obtain ⟨b, off, ha, hbB, hc⟩ := HR.out k hkl
      have hcx : (W.drewN m).cell? ⟨b, off + k, none⟩ = some (.int .u8 (l.getD k 0)) := (HO.out (b + 1)).cell hc (by omega)
      have hgx : (W.drewN m).cell? ⟨bg, 17, none⟩ = some (.slice (some ⟨o, 0, none⟩) n c) := (HO.out (bg + 1)).cell hg (by omega)
      have hox : (W.drewN m).cell? ⟨o, k, none⟩ = some (pv (os.getD k none)) := (HO.out (o + 1)).cell (Hos.out k hlt) (by omega)
      have he := Heq.out k hlt
      have s1 : (W.drewN m).cell? ⟨w.heap.size, 1, none⟩ = _ := (st_cell Hst.out).2.1
      have s2 : (W.drewN m).cell? ⟨w.heap.size, 2, none⟩ = _ := (st_cell Hst.out).2.2.1
      have s3 : (W.drewN m).cell? ⟨w.heap.size, 3, none⟩ = _ := (st_cell Hst.out).2.2.2.1
      have hd : ∀ q, (W.drewN m).drewN q = W.drewN (m + q) := fun q => World.drewN_drewN _ _ _
      have Hd : Hid (∀ q, (W.drewN m).drewN q = W.drewN (m + q)) := hd
      have ht := HT.out k hlt
      have htc : ∀ b, ta = some ⟨b, 0, none⟩ → w.cell? ⟨b, k, none⟩ = some (.bool (tf k)) → (W.drewN m).cell? ⟨b, k, none⟩ = some (.bool (tf k)) := fun b _ h => (HO.out (b + 1)).cell h (by omega)
      clear hkl hc hd
      subst ha
      generalize W.drewN m = W1 at hcx hgx hox s1 s2 s3 htc Hd ⊢
      generalize l.getD k 0 = x at hcx he
      generalize hcd : code bs bt x = cd at he
      generalize os.getD k none = ov at hox he
      obtain ⟨p, hp⟩ : ∃ p, pv cd = .pointer p := ⟨_, rfl⟩
      have Hp : Hid (pv (code bs bt x) = .pointer p) := by rw [hcd]; exact hp
      rcases ht with ⟨hta, htf⟩ | ⟨tb, hta, htcell⟩
      · rw [htf] at he
        have he2 : ov = cd := by simpa using he
        rw [he2, hp] at hox
        clear he he2 hcd hp htc htf
        subst hta
        go_wp2_with fail
        go_quiet ((go_at_call 25; exact Calls.quiet_of_same (z25 bs bt x _)))
        rw [Hp.out]
        go_wp2_with (go_at_call 13; refine (z13_1 bg o n c k p (W1.drewN nq) hgx hlt hox).mono ?_; rintro e w2 ⟨rfl, rfl⟩)
        go_roundw
        case rel => exact ⟨k + 1, m + nq, by omega, by go_num, Hd.out nq⟩
        case measure => simp [intOf]; omega
      · have htx := htc tb hta htcell
        have htn' : tn = n := Htn.out (by rw [hta]; simp)
        subst htn'
        clear htc htcell
        subst hta
        cases htf : tf k
        · rw [htf] at he htx
          have he2 : ov = cd := by simpa using he
          rw [he2, hp] at hox
          clear he he2 hcd hp htf
          go_wp2_with fail
          go_quiet ((go_at_call 25; exact Calls.quiet_of_same (z25 bs bt x _)))
          rw [Hp.out]
          go_wp2_with (go_at_call 13; refine (z13_1 bg o tn c k p (W1.drewN nq) hgx hlt hox).mono ?_; rintro e w2 ⟨rfl, rfl⟩)
          go_roundw
          case rel => exact ⟨k + 1, m + nq, by omega, by go_num, Hd.out nq⟩
          case measure => simp [intOf]; omega
        · rw [htf] at he htx
          have he2 : ov = none := by simpa using he
          rw [he2] at hox
          have hox2 : W1.cell? ⟨o, k, none⟩ = some (.pointer none) := hox
          clear he he2 hcd hp htf hox
          go_wp2_with fail
          go_quiet ((go_at_call 25; exact Calls.quiet_of_same (z25 bs bt x _)))
          rw [Hp.out]
          go_wp2_with (go_at_call 13; refine (z13_1 bg o tn c k none (W1.drewN nq) hgx hlt hox2).mono ?_; rintro e w2 ⟨rfl, rfl⟩)
          go_roundw
          case rel => exact ⟨k + 1, m + nq, by omega, by go_num, Hd.out nq⟩
          case measure => simp [intOf]; omega
    · go_wp2
      go_ret
      exact ⟨rfl, fun X => (HO.out X).drewN m⟩

end Go.Proofs.Qxb6612650aDoor.tb
