import Derived.Test.Qxb6612650aDoorAfter
import Derived.Test.Qxb6612650aDoorTk0
import Derived.Test.Qxb6612650aDoorTk1
namespace Go.Proofs.Qxb6612650aDoor.tb
open Go.ChangeShapes Go.WideShapes Go.ChangeAt Go.RowKit

/-! ### THE PLAIN LAW -/
theorem count_owners (s t : Nat) (h : s ≠ t) (l : List Int) : (owners s t l).count (some s) = c1 l := by
  unfold owners c1
  induction l with
  | nil => rfl
  | cons x l ih =>
    rw [List.map_cons, List.count_cons, List.countP_cons, ih]
    congr 1
    unfold code
    by_cases h1 : x = 1
    · simp [h1]
    · by_cases h2 : x = 2
      · simp [h2, Ne.symm h]
      · simp [h1, h2]
theorem count_set_none (s : Nat) : ∀ (os : List (Option Nat)) (k : Nat), os.getD k none = some s → (os.set k none).count (some s) + 1 = os.count (some s)
  | [], k, h => by simp at h
  | x :: os, 0, h => by
    have h' : x = some s := by simpa using h
    subst h'
    simp
  | x :: os, k + 1, h => by
    have ih := count_set_none s os k (by simpa using h)
    simp only [List.set_cons_succ, List.count_cons]
    omega
theorem getD_set_ne (os : List (Option Nat)) (i k : Nat) (h : i ≠ k) : (os.set k none).getD i none = os.getD i none := by
  simp [List.getD_eq_getElem?_getD, Ne.symm h]
theorem getD_set_eq (os : List (Option Nat)) (k : Nat) : (os.set k none).getD k none = none := by
  by_cases h : k < os.length
  · simp [List.getD_eq_getElem?_getD, h]
  · simp [List.getD_eq_getElem?_getD, List.getElem?_eq_none (by simpa using h : (os.set k none).length ≤ k)]
theorem strike_getD (U : List Int) : ∀ (os : List (Option Nat)) (i : Nat), (∀ u ∈ U, 0 ≤ u) → (strike os U).getD i none = if (i : Int) ∈ U then none else os.getD i none := by
  induction U with
  | nil => intro os i _; simp [strike]
  | cons u U ih =>
    intro os i h
    show (strike (os.set u.toNat none) U).getD i none = _
    rw [ih _ _ (fun v hv => h v (List.mem_cons_of_mem _ hv))]
    have hu := h u (by simp)
    by_cases h1 : (i : Int) ∈ U
    · simp [h1]
    · by_cases h2 : (i : Int) = u
      · have e : u.toNat = i := by omega
        rw [if_neg h1, if_pos (by simp [h2]), e, getD_set_eq]
      · rw [if_neg h1, if_neg (by simp [h1, h2]), getD_set_ne _ _ _ (by omega)]
theorem count_strike (s : Nat) (U : List Int) : ∀ (os : List (Option Nat)), (∀ u ∈ U, 0 ≤ u ∧ os.getD u.toNat none = some s) → U.Nodup → (strike os U).count (some s) + U.length = os.count (some s) := by
  induction U with
  | nil => intro os _ _; rfl
  | cons u U ih =>
    intro os h hn
    have hu := h u (by simp)
    have hn' := List.nodup_cons.1 hn
    have e := ih (os.set u.toNat none) (fun v hv => ⟨(h v (List.mem_cons_of_mem _ hv)).1, by
      rw [getD_set_ne _ _ _ (by
        intro e
        have h1 := (h v (List.mem_cons_of_mem _ hv)).1
        have : v = u := by omega
        exact hn'.1 (this ▸ hv))]
      exact (h v (List.mem_cons_of_mem _ hv)).2⟩) hn'.2
    have c := count_set_none s os u.toNat hu.2
    show (strike (os.set u.toNat none) U).count (some s) + (U.length + 1) = _
    omega
theorem owners_getD (s t : Nat) (l : List Int) (i : Nat) (h : i < l.length) : (owners s t l).getD i none = code s t (l.getD i 0) := by
  simp [owners, List.getD_eq_getElem?_getD, h]
/-- How many units s holds behind the strike. -/
theorem strike_count {s t : Nat} (h : s ≠ t) {D U : List Int} (g : Good D U) : (strike (owners s t D) U).count (some s) + U.length = c1 D := by
  rw [count_strike s U _ (fun u hu => ?_) g.2, count_owners s t h]
  have := g.1 u hu
  refine ⟨this.1, ?_⟩
  rw [owners_getD _ _ _ _ (by omega), this.2.2]
  rfl
theorem mem_count (s : Nat) (l : List (Option Nat)) : some s ∈ l ↔ 0 < l.count (some s) := List.count_pos_iff.symm

/-- What is left of s on g. -/
def leftN (C M U : List Int) : Int := (c1 C : Int) + c1 M - U.length
/-- What takeBack leaves, told by counting. -/
def finA (sw ao : Bool) (C M : List Int) (L : Bk) (hp : Option (Nat × Nat)) (bt : Nat) (left : Int) (A1 : Ab) : Ab :=
  { A1 with gps := if 0 < left then gpsOf L.bg hp else (gpsOf L.bg hp).tail, wh := sw && decide (0 < left), nds := if left = 0 ∧ ao = false then (ndsOf L.bs bt C M).tail else ndsOf L.bs bt C M }
def ZPost (sw ao : Bool) (C M : List Int) (L : Bk) (hp : Option (Nat × Nat)) (bt : Nat) (left : Int) (A1 : Ab) (w : World) (e : Ending) (w' : World) : Prop :=
  e = .returned (.bool (decide (left = 0) && !ao)) ∧ Fr L w w' ∧ ∃ ch', Tb w' { L with ch := ch' } (finA sw ao C M L hp bt left A1)

theorem gps_tail_ne {W : World} {bs bg : Nat} {sw : Bool} {hp : Option (Nat × Nat)} (h : Hf W bs bg sw hp) : gpsOf bg hp = bg :: (gpsOf bg hp).tail ∧ (∀ x ∈ (gpsOf bg hp).tail, x ≠ bg) ∧ ((gpsOf bg hp).tail = [] ↔ hp.isSome = false) := by
  cases hp with
  | none => simp [gpsOf]
  | some p => obtain ⟨bh, oh⟩ := p; have := h.2.2.2; simp [gpsOf]; omega
theorem nds_tail_ne (bs bt : Nat) (C M : List Int) (h : bs < bt) : ndsOf bs bt C M = bs :: (ndsOf bs bt C M).tail ∧ ∀ x ∈ (ndsOf bs bt C M).tail, x ≠ bs := by
  unfold ndsOf
  split <;> simp <;> omega

/-- The two ways of telling what takeBack leaves are one. -/
theorem fin_of {L : Bk} {A1 : Ab} {sw ao : Bool} {C M : List Int} {hp : Option (Nat × Nat)} {bt : Nat} {left : Int} {w w' : World} {e : Ending} (hl0 : 0 ≤ left) (hh : holds L A1 ↔ 0 < left) (hsw : A1.sw = sw) (hwh : A1.wh = sw) (hg : A1.gps = gpsOf L.bg hp) (hn : A1.nds = ndsOf L.bs bt C M)
    (hao : (gpsOf L.bg hp).tail = [] ↔ ao = false) (P : TPost L A1 (gpsOf L.bg hp).tail (ndsOf L.bs bt C M).tail w e w') : ZPost sw ao C M L hp bt left A1 w e w' := by
  obtain ⟨F, ch', P⟩ := P
  rcases P with ⟨h1, rfl, T⟩ | ⟨h1, h2, rfl, T⟩ | ⟨h1, h2, rfl, T⟩
  · have hp' := hh.1 h1
    refine ⟨by rw [show decide (left = 0) = false from decide_eq_false (by omega)]; rfl, F, ch', ?_⟩
    have e1 : finA sw ao C M L hp bt left A1 = A1 := by
      unfold finA
      rw [if_pos hp', if_neg (by omega), ← hg, ← hn, show (sw && decide (0 < left)) = A1.wh by rw [hwh, decide_eq_true hp']; simp]
    rw [e1]; exact T
  · have hp' : ¬ 0 < left := fun h => h1 (hh.2 h)
    have hz : left = 0 := by omega
    have ha : ao = true := by
      cases ao
      · exact absurd (hao.2 rfl) h2
      · rfl
    refine ⟨by rw [ha, hz]; rfl, F, ch', ?_⟩
    have e1 : finA sw ao C M L hp bt left A1 = { A1 with gps := (gpsOf L.bg hp).tail, wh := !A1.sw && A1.wh } := by
      unfold finA
      rw [if_neg hp', if_neg (by rw [ha]; simp), ← hn, show (sw && decide (0 < left)) = (!A1.sw && A1.wh) by rw [hwh, hsw, decide_eq_false hp']; cases sw <;> rfl]
    rw [e1]; exact T
  · have hp' : ¬ 0 < left := fun h => h1 (hh.2 h)
    have hz : left = 0 := by omega
    have ha : ao = false := hao.1 h2
    refine ⟨by rw [ha, hz]; rfl, F, ch', ?_⟩
    have e1 : finA sw ao C M L hp bt left A1 = { A1 with gps := (gpsOf L.bg hp).tail, wh := !A1.sw && A1.wh, nds := (ndsOf L.bs bt C M).tail } := by
      unfold finA
      rw [if_neg hp', if_pos ⟨hz, ha⟩, show (sw && decide (0 < left)) = (!A1.sw && A1.wh) by rw [hwh, hsw, decide_eq_false hp']; cases sw <;> rfl]
    rw [e1]; exact T

/-! ### ZZtakeBack, on what tbBuild leaves -/
theorem z9_0 (w0 w : World) (L : Bk) (A : Ab) (bt : Nat) (hp : Option (Nat × Nat)) (C M U : List Int) (sw ao : Bool) (Bt : Built w0 w L A bt hp C M sw ao) (hC : C.length ≤ 1048576) (hU : U.length ≤ 1048576) (g : Good C U) (a5 : Option Addr) (k5 : Nat) (rU : Rd L.B w .i64 a5 U) :
    Calls Tryd.prog 9 #[ptr L.bn, ptr L.bs, ptr L.bg, .int .i64 0, .slice a5 U.length k5] w
      fun e w' => ZPost sw ao C M L hp bt (leftN C M U) { A with os0 := strike (owners L.bs bt C) U, f0 := (cf C : Int) + U.length, h0 := (c1 C : Int) + (if ao then 1 else 0) - U.length } w e w' := by
  have hne : L.bs ≠ bt := Nat.ne_of_lt Bt.tb
  have hcnt := strike_count hne g
  have gt := gps_tail_ne Bt.h
  have nt := nds_tail_ne L.bs bt C M Bt.tb
  have q1 := c1_le C C.length
  have q3 : cf C ≤ C.length := List.countP_le_length
  rw [List.take_length] at q1
  have eos : A.os0 = owners L.bs bt C := by rw [Bt.eA]
  have eos1 : A.os1 = owners L.bs bt M := by rw [Bt.eA]
  have ef : A.f0 = cf C := by rw [Bt.eA]
  have eh : A.h0 = (c1 C : Int) + (if ao then 1 else 0) := by rw [Bt.eA]
  have eg : A.gps = gpsOf L.bg hp := by rw [Bt.eA]
  have en : A.nds = ndsOf L.bs bt C M := by rw [Bt.eA]
  have es : A.sw = sw := by rw [Bt.eA]
  have ew : A.wh = sw := by rw [Bt.eA]
  have hex : 0 ≤ (if ao then (1 : Int) else 0) ∧ (if ao then (1 : Int) else 0) ≤ 1 := by split <;> omega
  have main := z24_0 L A w Bt.T a5 k5 U hU rU (fun u hu => by have := g.1 u hu; rw [eos, owners_length]; omega) (by rw [ef]; omega) (by rw [eh]; omega) (gpsOf L.bg hp).tail (ndsOf L.bs bt C M).tail (by rw [eg]; exact gt.1) gt.2.1 (by rw [en]; exact nt.1) nt.2
    { A with os0 := strike (owners L.bs bt C) U, f0 := (cf C : Int) + U.length, h0 := (c1 C : Int) + (if ao then 1 else 0) - U.length } (by rw [eos, ef, eh])
  have HF : Hid (∀ e w', TPost L { A with os0 := strike (owners L.bs bt C) U, f0 := (cf C : Int) + U.length, h0 := (c1 C : Int) + (if ao then 1 else 0) - U.length } (gpsOf L.bg hp).tail (ndsOf L.bs bt C M).tail w e w' → ZPost sw ao C M L hp bt (leftN C M U) { A with os0 := strike (owners L.bs bt C) U, f0 := (cf C : Int) + U.length, h0 := (c1 C : Int) + (if ao then 1 else 0) - U.length } w e w') := by
    intro e w' P
    refine fin_of ?_ ?_ es ew eg en ?_ P
    · unfold leftN; omega
    · unfold holds leftN
      show some L.bs ∈ strike (owners L.bs bt C) U ∨ some L.bs ∈ A.os1 ↔ _
      rw [eos1, mem_count, mem_count, count_owners _ _ hne]
      omega
    · rw [gt.2.2, Bt.a]
  have Hm : Hid (Calls Tryd.prog 24 #[.pointer (some ⟨L.bn, 0, none⟩), .pointer (some ⟨L.bs, 0, none⟩), .pointer (some ⟨L.bg, 0, none⟩), .int .i64 0, .slice a5 U.length k5] w
      fun e w' => ZPost sw ao C M L hp bt (leftN C M U) { A with os0 := strike (owners L.bs bt C) U, f0 := (cf C : Int) + U.length, h0 := (c1 C : Int) + (if ao then 1 else 0) - U.length } w e w') := main.mono fun e w' P => HF.out e w' P
  clear main HF eos eos1 ef eh eg en es ew hex gt nt hcnt hne q1 q3
  generalize ({ A with os0 := strike (owners L.bs bt C) U, f0 := (cf C : Int) + U.length, h0 := (c1 C : Int) + (if ao then 1 else 0) - U.length } : Ab) = A1 at Hm ⊢
  clear rU g Bt
  simp only [ptr]
  go_enter Tryd.func9, Tryd.ntmps9
  go_wp2_with fail
  refine Hm.out.mono ?_
  rintro e w' ⟨rfl, R⟩
  have HR : Hid _ := R
  clear R
  go_wp2_with fail
  go_ret
  exact ⟨rfl, HR.out⟩

theorem z9_1 (w0 w : World) (L : Bk) (A : Ab) (bt : Nat) (hp : Option (Nat × Nat)) (C M U : List Int) (sw ao : Bool) (Bt : Built w0 w L A bt hp C M sw ao) (hM : M.length ≤ 1048576) (hU : U.length ≤ 1048576) (g : Good M U) (a5 : Option Addr) (k5 : Nat) (rU : Rd L.B w .i64 a5 U) :
    Calls Tryd.prog 9 #[ptr L.bn, ptr L.bs, ptr L.bg, .int .i64 1, .slice a5 U.length k5] w
      fun e w' => ZPost sw ao C M L hp bt (leftN C M U) { A with os1 := strike (owners L.bs bt M) U, f1 := (cf M : Int) + U.length, h1 := (c1 M : Int) - U.length } w e w' := by
  have hne : L.bs ≠ bt := Nat.ne_of_lt Bt.tb
  have hcnt := strike_count hne g
  have gt := gps_tail_ne Bt.h
  have nt := nds_tail_ne L.bs bt C M Bt.tb
  have q1 := c1_le M M.length
  have q3 : cf M ≤ M.length := List.countP_le_length
  rw [List.take_length] at q1
  have eos : A.os0 = owners L.bs bt C := by rw [Bt.eA]
  have eos1 : A.os1 = owners L.bs bt M := by rw [Bt.eA]
  have ef : A.f1 = cf M := by rw [Bt.eA]
  have eh : A.h1 = c1 M := by rw [Bt.eA]
  have eg : A.gps = gpsOf L.bg hp := by rw [Bt.eA]
  have en : A.nds = ndsOf L.bs bt C M := by rw [Bt.eA]
  have es : A.sw = sw := by rw [Bt.eA]
  have ew : A.wh = sw := by rw [Bt.eA]
  have main := z24_1 L A w Bt.T a5 k5 U hU rU (fun u hu => by have := g.1 u hu; rw [eos1, owners_length]; omega) (by rw [ef]; omega) (by rw [eh]; omega) (gpsOf L.bg hp).tail (ndsOf L.bs bt C M).tail (by rw [eg]; exact gt.1) gt.2.1 (by rw [en]; exact nt.1) nt.2
    { A with os1 := strike (owners L.bs bt M) U, f1 := (cf M : Int) + U.length, h1 := (c1 M : Int) - U.length } (by rw [eos1, ef, eh])
  have HF : Hid (∀ e w', TPost L { A with os1 := strike (owners L.bs bt M) U, f1 := (cf M : Int) + U.length, h1 := (c1 M : Int) - U.length } (gpsOf L.bg hp).tail (ndsOf L.bs bt C M).tail w e w' → ZPost sw ao C M L hp bt (leftN C M U) { A with os1 := strike (owners L.bs bt M) U, f1 := (cf M : Int) + U.length, h1 := (c1 M : Int) - U.length } w e w') := by
    intro e w' P
    refine fin_of ?_ ?_ es ew eg en ?_ P
    · unfold leftN; omega
    · unfold holds leftN
      show some L.bs ∈ A.os0 ∨ some L.bs ∈ strike (owners L.bs bt M) U ↔ _
      rw [eos, mem_count, mem_count, count_owners _ _ hne]
      omega
    · rw [gt.2.2, Bt.a]
  have Hm : Hid (Calls Tryd.prog 24 #[.pointer (some ⟨L.bn, 0, none⟩), .pointer (some ⟨L.bs, 0, none⟩), .pointer (some ⟨L.bg, 0, none⟩), .int .i64 1, .slice a5 U.length k5] w
      fun e w' => ZPost sw ao C M L hp bt (leftN C M U) { A with os1 := strike (owners L.bs bt M) U, f1 := (cf M : Int) + U.length, h1 := (c1 M : Int) - U.length } w e w') := main.mono fun e w' P => HF.out e w' P
  clear main HF eos eos1 ef eh eg en es ew gt nt hcnt hne q1 q3
  generalize ({ A with os1 := strike (owners L.bs bt M) U, f1 := (cf M : Int) + U.length, h1 := (c1 M : Int) - U.length } : Ab) = A1 at Hm ⊢
  clear rU g Bt
  simp only [ptr]
  go_enter Tryd.func9, Tryd.ntmps9
  go_wp2_with fail
  refine Hm.out.mono ?_
  rintro e w' ⟨rfl, R⟩
  have HR : Hid _ := R
  clear R
  go_wp2_with fail
  go_ret
  exact ⟨rfl, HR.out⟩

end Go.Proofs.Qxb6612650aDoor.tb
