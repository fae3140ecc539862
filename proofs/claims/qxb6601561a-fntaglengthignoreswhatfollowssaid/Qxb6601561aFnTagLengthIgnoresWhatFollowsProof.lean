/-
  PROOF OF 'Rows.FnTagLengthIgnoresWhatFollowsSaid'. The frame is the seat's shell; the plain law, the walks of tagLength, ZZtagLength, strings.HasPrefix at "W/" and of the law itself are typed here.
-/
import Derived.Test.Qxb6601561aRows
import Derived.WalkKit
import Derived.ProofKit
import Derived.OpenShut
import Derived.ShutString
import Derived.Below
namespace Go.Proofs.Qxb6601561a.fnTagLengthIgnoresWhatFollows
open Go.ChangeShapes Go.WideShapes Go.ChangeAt Go.RowKit
open Go.ChangeMaps (open_string shut_string)
set_option linter.unusedVariables false      -- a walk need not use every 'w<i>' (that an integer argument fits its kind)

theorem own : ownKnob Try.prog.godebug = none := by kernel_rfl

/-! ### THE PLAIN LAW: no Go in sight -/
def scan (g : Nat → Option UInt8) : Nat → Nat → Nat
  | 0, _ => 0
  | f + 1, i => match g i with
    | none => 0
    | some c => if c.toNat = 34 then i + 1 else if c.toNat < 33 ∨ c.toNat = 127 then 0 else scan g f (i + 1)

def pre (s : ByteArray) : Bool := decide (2 ≤ s.size) && ((s.extract 0 2).toList == [87, 47])
def start (s : ByteArray) : Nat := if pre s then 2 else 0
def tagLen (s : ByteArray) : Nat :=
  match s[start s]? with
  | none => 0
  | some c => if c.toNat = 34 then scan (fun i => s[i]?) (s.size - (start s + 1)) (start s + 1) else 0

theorem scan_bound (g : Nat → Option UInt8) : ∀ f i, scan g f i = 0 ∨ (i < scan g f i ∧ scan g f i ≤ i + f)
  | 0, _ => .inl rfl
  | f + 1, i => by
    unfold scan
    split
    · exact .inl rfl
    · split
      · right; omega
      · split
        · exact .inl rfl
        · rcases scan_bound g f (i + 1) with h | h
          · exact .inl h
          · right; omega

/-- What is read as a tag depends on the tag's own bytes alone. -/
theorem scan_same (g g' : Nat → Option UInt8) (n : Nat) : ∀ f f' i, scan g f i = n → n ≠ 0 → n ≤ i + f' → (∀ j, j < n → g' j = g j) → scan g' f' i = n
  | 0, _, _, h, hn, _, _ => by simp [scan] at h; omega
  | f + 1, f', i, h, hn, hf, hg => by
    have hb := scan_bound g (f + 1) i
    have hi : i < n := by omega
    obtain ⟨f', rfl⟩ : ∃ k, f' = k + 1 := ⟨f' - 1, by omega⟩
    unfold scan at h ⊢
    rw [hg i hi]
    cases hgi : g i with
    | none => rw [hgi] at h; exact h
    | some c =>
      rw [hgi] at h
      dsimp only at h ⊢
      split at h
      · rename_i hc; rw [if_pos hc]; exact h
      · rename_i hc; rw [if_neg hc]
        split at h
        · rename_i hd; rw [if_pos hd]; exact h
        · rename_i hd; rw [if_neg hd]
          exact scan_same g g' n f f' (i + 1) h hn (by omega) hg

theorem tagLen_bound (s : ByteArray) : tagLen s = 0 ∨ (start s + 1 < tagLen s ∧ tagLen s ≤ s.size) := by
  unfold tagLen
  split
  · exact .inl rfl
  · rename_i c hc
    have hlt : start s < s.size := by
      by_cases h : start s < s.size
      · exact h
      · rw [getElem?_neg s _ h] at hc; cases hc
    split
    · rcases scan_bound (fun i => s[i]?) (s.size - (start s + 1)) (start s + 1) with h | h
      · exact .inl h
      · right; omega
    · exact .inl rfl

theorem get_app (s rest : ByteArray) (n j : Nat) (hn : n ≤ s.size) (hj : j < n) : (s.extract 0 n ++ rest)[j]? = s[j]? := by
  have h1 : j < (s.extract 0 n).size := by rw [ByteArray.size_extract]; omega
  have h2 : j < (s.extract 0 n ++ rest).size := by rw [ByteArray.size_append]; omega
  rw [getElem?_pos _ j h2, getElem?_pos s j (by omega)]
  rw [ByteArray.getElem_append_left h1, ByteArray.getElem_extract]
  simp

theorem pre_app (s rest : ByteArray) (n : Nat) (hn : n ≤ s.size) (h2 : 2 ≤ n) : pre (s.extract 0 n ++ rest) = pre s := by
  have hs : (s.extract 0 n ++ rest).size = n + rest.size := by rw [ByteArray.size_append, ByteArray.size_extract]; omega
  have he : (s.extract 0 n ++ rest).extract 0 2 = s.extract 0 2 := by
    apply ByteArray.ext_getElem
    · rw [ByteArray.size_extract, ByteArray.size_extract, hs]; omega
    · intro i h1 h2'
      rw [ByteArray.getElem_extract, ByteArray.getElem_extract]
      rw [ByteArray.size_extract] at h2'
      have := get_app s rest n (0 + i) hn (by omega)
      rw [getElem?_pos _ _ (by rw [hs]; omega), getElem?_pos s _ (by omega)] at this
      exact Option.some.inj this
  unfold pre
  rw [he, hs]
  have a : decide (2 ≤ n + rest.size) = true := decide_eq_true (by omega)
  have b : decide (2 ≤ s.size) = true := decide_eq_true (by omega)
  rw [a, b]

/-- THE PLAIN LAW: a tag that is followed by anything is read as the same bytes. -/
theorem tagLen_app (s rest : ByteArray) (h : tagLen s ≠ 0) : tagLen (s.extract 0 (tagLen s) ++ rest) = tagLen s := by
  have hb := tagLen_bound s
  generalize hn : tagLen s = n at *
  have hlo : start s + 1 < n := by omega
  have hhi : n ≤ s.size := by omega
  have hs : (s.extract 0 n ++ rest).size = n + rest.size := by rw [ByteArray.size_append, ByteArray.size_extract]; omega
  have hst : start (s.extract 0 n ++ rest) = start s := by unfold start; rw [pre_app s rest n hhi (by omega)]
  have hg : ∀ j, j < n → (fun i => (s.extract 0 n ++ rest)[i]?) j = (fun i => s[i]?) j := fun j hj => get_app s rest n j hhi hj
  unfold tagLen at hn ⊢
  rw [hst, get_app s rest n _ hhi (by omega), hs]
  split at hn
  · omega
  · rename_i c hc
    split at hn
    · rename_i hq
      rw [if_pos hq]
      exact scan_same _ _ n _ _ _ hn h (by omega) hg
    · omega

/-! ### THE WALKS OF THE CALLEES -/
set_option maxHeartbeats 400000 in
theorem hasP (s : ByteArray) (w : World) (hs : s.size ≤ maxLen) :
    Calls Try.prog 13 #[.string s, .string ⟨#[87, 47]⟩] w fun e w' => e = .returned (.bool (pre s)) ∧ w' = w := by
  unfold maxLen at hs
  by_cases h : 2 ≤ s.size
  · go_enter Try.func13, Try.ntmps13
    go_wp2
    go_ret
    exact ⟨by simp [pre, h], rfl⟩
  · go_enter Try.func13, Try.ntmps13
    go_wp2
    go_ret
    exact ⟨by simp [pre, h], rfl⟩

/-- The scan from place k on, in the string s. -/
def scanAt (s : ByteArray) (k : Nat) : Nat := scan (fun i => s[i]?) (s.size - k) k
theorem scanAt_end (s : ByteArray) (k : Nat) (h : s.size ≤ k) : scanAt s k = 0 := by
  unfold scanAt; rw [show s.size - k = 0 by omega]; rfl
theorem scanAt_step (s : ByteArray) (k : Nat) (h : k < s.size) :
    scanAt s k = if (s[k].toNat : Int) = 34 then k + 1 else if (s[k].toNat : Int) < 33 ∨ (s[k].toNat : Int) = 127 then 0 else scanAt s (k + 1) := by
  unfold scanAt
  rw [show s.size - k = (s.size - (k + 1)) + 1 by omega, scan]
  simp only [getElem?_pos s k h]
  have e1 : ((s[k].toNat : Int) = 34) = (s[k].toNat = 34) := by apply propext; omega
  have e2 : ((s[k].toNat : Int) < 33 ∨ (s[k].toNat : Int) = 127) = (s[k].toNat < 33 ∨ s[k].toNat = 127) := by apply propext; omega
  simp only [e1, e2]

theorem tagLen_none (s : ByteArray) (st : Nat) (e : start s = st) (h : s.size ≤ st) : tagLen s = 0 := by
  subst e; unfold tagLen; rw [getElem?_neg s _ (by omega)]
theorem tagLen_noquote (s : ByteArray) (st : Nat) (e : start s = st) (h : st < s.size) (hq : ¬ (s[st].toNat : Int) = 34) : tagLen s = 0 := by
  subst e; unfold tagLen; rw [getElem?_pos s _ h]; dsimp only; rw [if_neg (by omega)]
theorem tagLen_quote (s : ByteArray) (st : Nat) (e : start s = st) (h : st < s.size) (hq : (s[st].toNat : Int) = 34) : tagLen s = scanAt s (st + 1) := by
  subst e; unfold tagLen; rw [getElem?_pos s _ h]; dsimp only; rw [if_pos (by omega)]; rfl

theorem ret_int {k : IntKind} {a b : Int} (h : a = b) : Ending.returned (.int k a) = .returned (.int k b) := by rw [h]

set_option maxHeartbeats 1000000 in
theorem tagLen_calls (s : ByteArray) (w : World) (hs : s.size ≤ maxLen) :
    Calls Try.prog 11 #[.string s] w fun e w' => e = .returned (.int .i64 (tagLen s)) ∧ w' = w := by
  have hs' := hs
  unfold maxLen at hs
  cases hp : pre s
  · have hst : start s = 0 := by unfold start; rw [hp]; rfl
    by_cases h1 : 0 < s.size
    · have hne : ¬ s = ByteArray.empty := by intro h; subst h; simp at h1
      by_cases hq : (s[0].toNat : Int) = 34
      · have hq' : ((s[0].toNat : Int) != 34) = false := by simp [hq]
        have HE : Hid (tagLen s = scanAt s 1) := tagLen_quote s 0 hst h1 hq
        clear hq hst
        go_enter Try.func11, Try.ntmps11
        go_wp2_with (go_at_call 13; refine (hasP _ _ hs').mono ?_; rintro e w' ⟨rfl, rfl⟩)
        go_loop [4] (fun i => ∃ k : Nat, 1 ≤ k ∧ k ≤ s.size ∧ i = .int .i64 k ∧ Hid (tagLen s = scanAt s k)) (fun i => s.size - (intOf i).toNat)
        case atStart => exact ⟨1, Nat.le_refl _, h1, rfl, HE⟩
        case round =>
          obtain ⟨k, hk1, hk, rfl, HK⟩ := hrel
          clear HE
          by_cases hlt : k < s.size
          · have HS : Hid (scanAt s k = _) := scanAt_step s k hlt
            by_cases c1 : (s[k].toNat : Int) = 34
            · have c1' : ((s[k].toNat : Int) == 34) = true := by simp [c1]
              have HF : Hid (tagLen s = k + 1) := by rw [HK.out, HS.out, if_pos c1]; rfl
              clear c1 HS
              go_wp2
              go_ret
              exact ⟨ret_int (by rw [HF.out]; rfl), rfl⟩
            · have c1' : ((s[k].toNat : Int) == 34) = false := by simp [c1]
              by_cases c2 : (s[k].toNat : Int) < 33 ∨ (s[k].toNat : Int) = 127
              · have HF : Hid (tagLen s = 0) := by rw [HK.out, HS.out, if_neg c1, if_pos c2]; rfl
                clear c1 HS
                rcases c2 with c2 | c2
                · go_wp2
                  go_ret
                  exact ⟨ret_int (by rw [HF.out]; rfl), rfl⟩
                · have c3 : ((s[k].toNat : Int) == 127) = true := by simp [c2]
                  have c4 : ¬ (s[k].toNat : Int) < 33 := by omega
                  clear c2
                  go_wp2
                  go_ret
                  exact ⟨ret_int (by rw [HF.out]; rfl), rfl⟩
              · have HF : Hid (tagLen s = scanAt s (k + 1)) := by rw [HK.out, HS.out, if_neg c1, if_neg c2]; rfl
                have c3 : ((s[k].toNat : Int) == 127) = false := by simp; omega
                have c4 : ¬ (s[k].toNat : Int) < 33 := by omega
                clear c1 c2 HS
                go_wp2
                go_round
                case rel => exact ⟨k + 1, by omega, by omega, by go_num, HF⟩
                case measure => simp [intOf]; omega
          · go_wp2
            go_ret
            exact ⟨ret_int (by rw [HK.out, scanAt_end s k (by omega)]; rfl), rfl⟩
      · have hq' : ((s[0].toNat : Int) != 34) = true := by simp [hq]
        have HE : Hid (tagLen s = 0) := tagLen_noquote s 0 hst h1 hq
        clear hq hst
        go_enter Try.func11, Try.ntmps11
        go_wp2_with (go_at_call 13; refine (hasP _ _ hs').mono ?_; rintro e w' ⟨rfl, rfl⟩)
        go_ret
        exact ⟨ret_int (by rw [HE.out]; rfl), rfl⟩
    · have HE : Hid (tagLen s = 0) := tagLen_none s 0 hst (by omega)
      clear hst
      have hem : s = ByteArray.empty := by
        have h0 : s.size = 0 := by omega
        exact ByteArray.size_eq_zero_iff.1 h0
      subst hem
      go_enter Try.func11, Try.ntmps11
      go_wp2_with (go_at_call 13; refine (hasP _ _ hs').mono ?_; rintro e w' ⟨rfl, rfl⟩)
      go_ret
      exact ⟨ret_int (by rw [HE.out]; rfl), rfl⟩
  · have hst : start s = 2 := by unfold start; rw [hp]; rfl
    by_cases h1 : 2 < s.size
    · have hne : 2 < (s.size : Int) := by omega
      by_cases hq : (s[2].toNat : Int) = 34
      · have hq' : ((s[2].toNat : Int) != 34) = false := by simp [hq]
        have HE : Hid (tagLen s = scanAt s 3) := tagLen_quote s 2 hst h1 hq
        clear hq hst
        go_enter Try.func11, Try.ntmps11
        go_wp2_with (go_at_call 13; refine (hasP _ _ hs').mono ?_; rintro e w' ⟨rfl, rfl⟩)
        go_loop [4] (fun i => ∃ k : Nat, 3 ≤ k ∧ k ≤ s.size ∧ i = .int .i64 k ∧ Hid (tagLen s = scanAt s k)) (fun i => s.size - (intOf i).toNat)
        case atStart => exact ⟨3, Nat.le_refl _, h1, rfl, HE⟩
        case round =>
          obtain ⟨k, hk1, hk, rfl, HK⟩ := hrel
          clear HE
          by_cases hlt : k < s.size
          · have HS : Hid (scanAt s k = _) := scanAt_step s k hlt
            by_cases c1 : (s[k].toNat : Int) = 34
            · have c1' : ((s[k].toNat : Int) == 34) = true := by simp [c1]
              have HF : Hid (tagLen s = k + 1) := by rw [HK.out, HS.out, if_pos c1]; rfl
              clear c1 HS
              go_wp2
              go_ret
              exact ⟨ret_int (by rw [HF.out]; rfl), rfl⟩
            · have c1' : ((s[k].toNat : Int) == 34) = false := by simp [c1]
              by_cases c2 : (s[k].toNat : Int) < 33 ∨ (s[k].toNat : Int) = 127
              · have HF : Hid (tagLen s = 0) := by rw [HK.out, HS.out, if_neg c1, if_pos c2]; rfl
                clear c1 HS
                rcases c2 with c2 | c2
                · go_wp2
                  go_ret
                  exact ⟨ret_int (by rw [HF.out]; rfl), rfl⟩
                · have c3 : ((s[k].toNat : Int) == 127) = true := by simp [c2]
                  have c4 : ¬ (s[k].toNat : Int) < 33 := by omega
                  clear c2
                  go_wp2
                  go_ret
                  exact ⟨ret_int (by rw [HF.out]; rfl), rfl⟩
              · have HF : Hid (tagLen s = scanAt s (k + 1)) := by rw [HK.out, HS.out, if_neg c1, if_neg c2]; rfl
                have c3 : ((s[k].toNat : Int) == 127) = false := by simp; omega
                have c4 : ¬ (s[k].toNat : Int) < 33 := by omega
                clear c1 c2 HS
                go_wp2
                go_round
                case rel => exact ⟨k + 1, by omega, by omega, by go_num, HF⟩
                case measure => simp [intOf]; omega
          · go_wp2
            go_ret
            exact ⟨ret_int (by rw [HK.out, scanAt_end s k (by omega)]; rfl), rfl⟩
      · have hq' : ((s[2].toNat : Int) != 34) = true := by simp [hq]
        have HE : Hid (tagLen s = 0) := tagLen_noquote s 2 hst h1 hq
        clear hq hst
        go_enter Try.func11, Try.ntmps11
        go_wp2_with (go_at_call 13; refine (hasP _ _ hs').mono ?_; rintro e w' ⟨rfl, rfl⟩)
        go_ret
        exact ⟨ret_int (by rw [HE.out]; rfl), rfl⟩
    · have HE : Hid (tagLen s = 0) := tagLen_none s 2 hst (by omega)
      clear hst
      go_enter Try.func11, Try.ntmps11
      go_wp2_with (go_at_call 13; refine (hasP _ _ hs').mono ?_; rintro e w' ⟨rfl, rfl⟩)
      go_ret
      exact ⟨ret_int (by rw [HE.out]; rfl), rfl⟩

theorem zz_calls (s : ByteArray) (w : World) (hs : s.size ≤ maxLen) :
    Calls Try.prog 7 #[.string s] w fun e w' => e = .returned (.int .i64 (tagLen s)) ∧ w' = w := by
  go_enter Try.func7, Try.ntmps7
  go_wp2_with (go_at_call 11; refine (tagLen_calls _ _ hs).mono ?_; rintro e w' ⟨rfl, rfl⟩)
  go_ret
  exact ⟨rfl, rfl⟩

set_option maxHeartbeats 1000000 in
theorem bytes_calls (s r : ByteArray) (w : World) (hs : s.size ≤ maxLen) (hr : r.size ≤ maxLen) :
    Calls Try.prog 9 #[.string s, .string r] w fun e w' => (∃ b : Bool, e = .returned (.bool b)) ∧ w' = w := by
  unfold maxLen at hs hr
  go_enter Try.func9, Try.ntmps9
  go_wp2
  all_goals
    go_ret
    exact ⟨⟨_, rfl⟩, rfl⟩

set_option maxHeartbeats 1000000 in
theorem walk (a0 : ByteArray) (a1 : ByteArray) (w0 : a0.size ≤ maxLen) (w1 : a1.size ≤ maxLen) (w : World) :
    Calls Try.prog 4 #[.string a0, .string a1] w fun e w' => e = .returned (.bool true) ∧ Grown w w' := by
  have hb := tagLen_bound a0
  have Hlaw : Hid (tagLen a0 ≠ 0 → tagLen (a0.extract 0 (tagLen a0) ++ a1) = tagLen a0) := tagLen_app a0 a1
  have w0' := w0
  have w1' := w1
  unfold maxLen at w0' w1'
  generalize hn : tagLen a0 = n at *
  have HN : Hid (tagLen a0 = n) := hn
  clear hn
  go_enter Try.func4, Try.ntmps4
  go_wp2_with fail
  refine (bytes_calls _ _ _ w0 w1).mono ?_
  rintro e w' ⟨⟨b, rfl⟩, rfl⟩
  cases b
  · go_wp2_with fail
    go_ret
    exact ⟨rfl, Grown.refl _⟩
  by_cases h0 : a0.size ≤ 65536
  · by_cases h1 : a1.size ≤ 65536
    · go_wp2_with fail
      refine (zz_calls _ _ w0).mono ?_
      rintro e w' ⟨rfl, rfl⟩
      rw [HN.out]
      by_cases hz : n = 0
      · have hz' : ((n : Int) == 0) = true := by simp [hz]
        have hn0 : ¬ (n : Int) < 0 := by omega
        have hn1 : ¬ (a0.size : Int) < (n : Int) := by omega
        clear hz hb Hlaw
        go_wp2_with fail
        go_ret
        exact ⟨rfl, Grown.refl _⟩
      · have hz' : ((n : Int) == 0) = false := by simp [hz]
        have hle : n ≤ a0.size := by omega
        have HL : Hid (tagLen (a0.extract 0 n ++ a1) = n) := Hlaw hz
        have hsz : (a0.extract 0 n ++ a1).size ≤ maxLen := by
          rw [ByteArray.size_append, ByteArray.size_extract]; unfold maxLen; omega
        clear hb Hlaw
        go_wp2_with fail
        refine (zz_calls _ _ hsz).mono ?_
        rintro e w' ⟨rfl, rfl⟩
        rw [HL.out]
        go_wp2_with fail
        go_ret
        exact ⟨by simp, Grown.refl _⟩
    · go_wp2_with fail
      go_ret
      exact ⟨rfl, Grown.refl _⟩
  · go_wp2_with fail
    go_ret
    exact ⟨rfl, Grown.refl _⟩

/-! ### THE ROW's STEP: WRITTEN OUT: LEAVE IT -/
set_option maxRecDepth 100000 in
theorem lifted (os : Os) (started : os.Started) (H : Type) (enc : TypeId × Value → H) :
    ReturnsInHanded {} Try.checked os 4 .any (Rows.fnTagLengthIgnoresWhatFollowsSpec.pre6 enc Try.prog Try.f4 Rows.fnTagLengthIgnoresWhatFollowsRow.domain false) (Rows.fnTagLengthIgnoresWhatFollowsSpec.post enc Try.prog Try.f4 false true false false) := by
  refine returnsInHanded_of_change (C := Try.checked) own started (by kernel_rfl) Try.func4
    (ChangeSpec.witness6 (enc := enc) (C := Try.checked) false ⟨#[], #[.string ByteArray.empty, .string ByteArray.empty], []⟩ 8 (by kernel_rfl) (by kernel_rfl) (by kernel_rfl) (by kernel_rfl)) ?_
  intro W base args ds gs before hval0 hW hcnd _
  have hval : ∀ (j : Nat) t v, Try.f4.params[j]? = some t → args[j]? = some v → Value.okWide Try.prog W .any base t v := hval0
  have hW' := hW
  obtain ⟨p, q, hA0, hV, rfl, hfz, hnd⟩ := hW
  have hA : DataW.TrodAll enc Try.prog W 0 (fun _ => true) true Try.f4.params.toList args.toList ds p := hA0
  rw [Try.params4] at hA hval
  obtain ⟨v0, vs0, d0, ds0, p0, q0, hargs, rfl, rfl, h0, r0⟩ := trodAll_cons hA
  obtain ⟨v1, vs1, d1, ds1, p1, q1, rfl, rfl, rfl, h1, r1⟩ := trodAll_cons r0
  obtain ⟨rfl, rfl, rfl⟩ := trodAll_nil r1
  obtain rfl : args = #[v0, v1] := by cases args; simp_all
  obtain ⟨rfl, rfl⟩ := trodVars_none hV
  obtain ⟨a0, rfl, rfl, rfl, w0⟩ := open_string Try.underlying9 (hval 0 9 v0 rfl rfl) h0
  obtain ⟨a1, rfl, rfl, rfl, w1⟩ := open_string Try.underlying9 (hval 1 9 v1 rfl rfl) h1
  clear hA0 hval0
  simp only [List.append_nil] at hW'
  refine (walk a0 a1 w0 w1 W).mono fun e W' ⟨he, hg⟩ => ?_
  subst he
  exact ⟨_, rfl, post_of_same (pa := []) (pv := []) hW' (fun _ _ _ => (trodAll_cons_mk (shut_bool Try.underlying4 _) trodAll_mk0)) (fun sp _ => (trodAll_cons_mk (shut_string Try.underlying9 w0) (trodAll_cons_mk (shut_string Try.underlying9 w1) trodAll_mk0))) (fun _ _ => rfl) rfl
    (hg.frame _) hg.2.1 (ok_one (by kernel_rfl) rfl (okWide_bool_mk Try.underlying4 _))⟩

theorem over : Rows.fnTagLengthIgnoresWhatFollowsRow.holds Try.pinned (OpenSpec.ofChange Rows.fnTagLengthIgnoresWhatFollowsSpec) :=
  OpenClaim.holds_of_wide 4 Try.f4 rfl rfl rfl rfl rfl rfl rfl ⟨rfl, rfl, rfl, rfl, rfl⟩ rfl rfl rfl rfl rfl (by kernel_rfl) Try.func4 (by kernel_rfl)
    (of_decide_eq_true (by kernel_rfl)) (by unfold Func.isWrapper; first | (rw [if_pos (by decide +kernel)]; kernel_rfl) | (rw [if_neg (by decide +kernel)]; exact ⟨rfl, rfl⟩))
    (fun os started H enc _ => lifted os started H enc)

/-- ████ THE STATEMENT ████ -/
theorem proved : Rows.FnTagLengthIgnoresWhatFollowsSaid :=
  over
end Go.Proofs.Qxb6601561a.fnTagLengthIgnoresWhatFollows
