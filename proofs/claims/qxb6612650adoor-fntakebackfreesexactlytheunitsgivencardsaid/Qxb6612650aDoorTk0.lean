import Derived.Test.Qxb6612650aDoorTk
namespace Go.Proofs.Qxb6612650aDoor.tb
open Go.ChangeShapes Go.WideShapes Go.ChangeAt Go.RowKit

set_option maxRecDepth 100000 in
set_option maxHeartbeats 2000000 in
theorem z24_0 (L : Bk) (A : Ab) (w : World) (T : Tb w L A) (a5 : Option Addr) (k5 : Nat) (U : List Int) (hUl : U.length ≤ 1048576) (rU : Rd L.B w .i64 a5 U) (hU : ∀ u ∈ U, 0 ≤ u ∧ u < A.os0.length)
    (hf : 0 ≤ A.f0 ∧ A.f0 ≤ 1048576) (hh : 0 ≤ A.h0 ∧ A.h0 ≤ 4194304) (grest nrest : List Nat) (hg : A.gps = L.bg :: grest) (hgn : ∀ x ∈ grest, x ≠ L.bg) (hn : A.nds = L.bs :: nrest) (hnn : ∀ x ∈ nrest, x ≠ L.bs)
    (A1 : Ab) (hA1 : A1 = { A with os0 := strike A.os0 U, f0 := A.f0 + U.length, h0 := A.h0 - U.length }) :
    Calls Tryd.prog 24 #[.pointer (some ⟨L.bn, 0, none⟩), .pointer (some ⟨L.bs, 0, none⟩), .pointer (some ⟨L.bg, 0, none⟩), .int .i64 0, .slice a5 U.length k5] w
      fun e w' => TPost L A1 grest nrest w e w' := by
  have HA1 : Hid (A1 = { A with os0 := strike A.os0 U, f0 := A.f0 + U.length, h0 := A.h0 - U.length }) := hA1
  clear hA1
  have HT : Hid (Tb w L A) := T
  have HrU : Hid (Rd L.B w .i64 a5 U) := rU
  have HU : Hid (∀ u ∈ U, 0 ≤ u ∧ u < A.os0.length) := hU
  have Hg : Hid (A.gps = L.bg :: grest ∧ ∀ x ∈ grest, x ≠ L.bg) := ⟨hg, hgn⟩
  have Hn : Hid (A.nds = L.bs :: nrest ∧ ∀ x ∈ nrest, x ≠ L.bs) := ⟨hn, hnn⟩
  clear T rU hU hg hgn hn hnn
  have HTx : Hid (Tb ((w.alloc (.cells #[.pointer (some ⟨L.bs, 0, none⟩)] 31)).alloc (.cells #[.pointer (some ⟨L.bg, 0, none⟩)] 32)) L A) := (HT.out.alloc _).alloc _
  have HBx : Hid (Bx ((w.alloc (.cells #[.pointer (some ⟨L.bs, 0, none⟩)] 31)).alloc (.cells #[.pointer (some ⟨L.bg, 0, none⟩)] 32)) w.heap.size L.bs L.bg) := ⟨by
    rw [Below.heap_alloc _ _ _ (by simp)]; exact heap_alloc_new _ _, by
    have := heap_alloc_new (w.alloc (.cells #[.pointer (some ⟨L.bs, 0, none⟩)] 31)) (.cells #[.pointer (some ⟨L.bg, 0, none⟩)] 32)
    simpa using this⟩
  have HFr : Hid (Fr L w ((w.alloc (.cells #[.pointer (some ⟨L.bs, 0, none⟩)] 31)).alloc (.cells #[.pointer (some ⟨L.bg, 0, none⟩)] 32))) := (((One.refl L.bs w).alloc _).alloc _).fr (.inl rfl)
  generalize hnU : U.length = nU at *
  have HnU : Hid (U.length = nU) := hnU
  clear hnU
  go_enter Tryd.func24, Tryd.ntmps24
  go_wp2_with fail
  go_loopw [15] (fun i wr => ∃ k : Nat, k ≤ nU ∧ i = .int .i64 k ∧ Tb wr L { A with os0 := strike A.os0 (U.take k) } ∧ Bx wr w.heap.size L.bs L.bg ∧ Fr L w wr) (fun i _ => nU - (intOf i).toNat)
  case atStart => exact ⟨0, Nat.zero_le _, rfl, HTx.out, HBx.out, HFr.out⟩
  case round =>
    obtain ⟨k, hk, rfl, hT, hBx, hFr⟩ := hrel
    clear HTx HBx HFr
    have HT2 : Hid (Tb wr L { A with os0 := strike A.os0 (U.take k) }) := hT
    have HBx2 : Hid (Bx wr w.heap.size L.bs L.bg) := hBx
    have HFr2 : Hid (Fr L w wr) := hFr
    clear hT hBx hFr
    by_cases hlt : k < nU
    · obtain ⟨b, off, ha, hbB, hc⟩ := (HrU.out.below (HFr2.out.below HT.out)) k (by rw [HnU.out]; exact hlt)
      have hmem : U.getD k 0 ∈ U := by simp [List.getD_eq_getElem?_getD, show k < U.length by rw [HnU.out]; exact hlt]
      have hub := HU.out _ hmem
      have HS : Hid (strike A.os0 (U.take (k + 1)) = (strike A.os0 (U.take k)).set (U.getD k 0).toNat none) := by rw [take_snoc U k (by rw [HnU.out]; exact hlt), strike_snoc]; rfl
      clear hmem
      generalize U.getD k 0 = u at hc hub HS
      obtain ⟨v, rfl⟩ := Int.eq_ofNat_of_zero_le hub.1
      rw [Int.toNat_natCast] at HS
      have hlen : (strike A.os0 (U.take k)).length = A.os0.length := strike_length _ _
      have hr0 := HT2.out.r0
      have hvlt : v < A.os0.length := by omega
      have hR : wr.cell? ⟨L.o0, v, none⟩ = some (pv ((strike A.os0 (U.take k)).getD v none)) := row_cell hr0 v (by rw [hlen]; exact hvlt)
      have hRf := hr0.frozenAt v
      obtain ⟨p, hp⟩ : ∃ p, pv ((strike A.os0 (U.take k)).getD v none) = .pointer p := ⟨_, rfl⟩
      rw [hp] at hR
      have hbox := HBx2.out.cell.2
      have hown := (gpu_cell HT2.out.g).1
      simp only [hlen] at hown
      have Hst : Hid _ := hr0.stored v (.pointer none)
      generalize hnO : A.os0.length = nO at hown hvlt
      clear hnO hlen hp hub hr0
      subst ha
      go_wp2
      go_roundw
      case rel =>
        refine ⟨k + 1, by omega, by go_num, ?_, HBx2.out.one (One.setCell wr L.o0 v _) ?_, HFr2.out.trans ((One.setCell wr L.o0 v _).fr (by simp))⟩
        · have e : ((strike A.os0 (U.take k)).map pv).set v (.pointer none) = ((strike A.os0 (U.take (k + 1))).map pv) := by rw [HS.out, List.map_set]; rfl
          have h1 := Hst.out.1
          rw [e] at h1
          refine HT2.out.row0 (One.setCell wr L.o0 v _) (strike A.os0 (U.take (k + 1))) (by simp [strike_length]) (by simpa [strike_length] using h1) (fun b hb => HT.out.t0 b (strike_mem _ _ _ hb))
        · exact own_lt HT.out.r0
      case measure => simp [intOf]; omega
    · have ht : U.take k = U := List.take_of_length_le (by rw [HnU.out]; omega)
      rw [ht] at HT2
      clear ht
      have c1 := gpu_cell HT2.out.g
      have c1f := gpu_frozen HT2.out.g 18
      have hbox := HBx2.out.cell.2
      obtain ⟨_, _, c2, _, _⟩ := c1
      simp only at c2
      go_wp2
      go_region
      have o1 : One L.bg wr ((wr.setCell ⟨L.bg, 18, none⟩ (.int .i64 (A.f0 + nU))).drew) := (One.setCell wr L.bg 18 _).drew
      have HT3 : Hid (Tb ((wr.setCell ⟨L.bg, 18, none⟩ (.int .i64 (A.f0 + nU))).drew) L { A with os0 := strike A.os0 U, f0 := A.f0 + nU }) := HT2.out.gpu o1 (A.f0 + nU) A.f1 A.wh (gpu_set18 HT2.out.g _)
      have HBx3 : Hid (Bx ((wr.setCell ⟨L.bg, 18, none⟩ (.int .i64 (A.f0 + nU))).drew) w.heap.size L.bs L.bg) := HBx2.out.one o1 (Array.getElem?_eq_some_iff.1 HT.out.g).1
      have HFr3 : Hid (Fr L w ((wr.setCell ⟨L.bg, 18, none⟩ (.int .i64 (A.f0 + nU))).drew)) := HFr2.out.trans (o1.fr (by simp))
      clear o1 c1f hbox c2
      generalize (wr.setCell ⟨L.bg, 18, none⟩ (.int .i64 (A.f0 + nU))).drew = W at HT3 HBx3 HFr3 ⊢
      clear HT2 HBx2 HFr2
      have c1 := grant_cell HT3.out.s
      have c1f := grant_frozen HT3.out.s 2
      have hbox := HBx3.out.cell.1
      obtain ⟨_, _, c2, _⟩ := c1
      simp only at c2
      go_wp2
      go_region
      have o1 : One L.bs W ((W.setCell ⟨L.bs, 2, none⟩ (.int .i64 (A.h0 - nU))).drew) := (One.setCell W L.bs 2 _).drew
      have HT4 : Hid (Tb ((W.setCell ⟨L.bs, 2, none⟩ (.int .i64 (A.h0 - nU))).drew) L { A with os0 := strike A.os0 U, f0 := A.f0 + nU, h0 := A.h0 - nU }) := HT3.out.grant o1 (A.h0 - nU) A.h1 (grant_set2 HT3.out.s _)
      have HBx4 : Hid (Bx ((W.setCell ⟨L.bs, 2, none⟩ (.int .i64 (A.h0 - nU))).drew) w.heap.size L.bs L.bg) := HBx3.out.one o1 (Array.getElem?_eq_some_iff.1 HT.out.s).1
      have HFr4 : Hid (Fr L w ((W.setCell ⟨L.bs, 2, none⟩ (.int .i64 (A.h0 - nU))).drew)) := HFr3.out.trans (o1.fr (by simp))
      clear o1 c1f hbox c2
      generalize (W.setCell ⟨L.bs, 2, none⟩ (.int .i64 (A.h0 - nU))).drew = W2 at HT4 HBx4 HFr4 ⊢
      clear HT3 HBx3 HFr3
      have hbs := HBx4.out.cell.1
      have hbg := HBx4.out.cell.2
      rw [← HA1.out] at HT4
      have e1 : A1.gps = L.bg :: grest := by rw [HA1.out]; exact Hg.out.1
      have e2 : A1.nds = L.bs :: nrest := by rw [HA1.out]; exact Hn.out.1
      have E1 : Hid (A1.gps = L.bg :: grest) := e1
      have E2 : Hid (A1.nds = L.bs :: nrest) := e2
      clear e1 e2 HA1
      go_wp2_with fail
      refine (z28 L.bg L.o0 L.o1 L.bs A1.os0.length A1.os1.length A1.os0 A1.os1 W2 HT4.out.sz.1 HT4.out.sz.2.1 (Tb.rowR0 HT4.out) (Tb.rowR1 HT4.out) (HT4.out.th _ HT4.out.ts) HT4.out.v.1 HT4.out.v.2 (gpu_cell HT4.out.g).1 (gpu_cell HT4.out.g).2.1).mono ?_
      rintro e w3 ⟨rfl, rfl⟩
      by_cases hh : holds L A1
      · have hb : (decide (some L.bs ∈ A1.os0) || decide (some L.bs ∈ A1.os1)) = true := by simpa [holds] using hh
        rw [hb]
        have Hh : Hid (holds L A1) := hh
        clear hb hh
        go_wp2_with fail
        go_ret
        exact ⟨HFr4.out, L.ch, .inl ⟨Hh.out, rfl, HT4.out⟩⟩
      have hb : (decide (some L.bs ∈ A1.os0) || decide (some L.bs ∈ A1.os1)) = false := by simpa [holds] using hh
      rw [hb]
      have Hh : Hid (¬ holds L A1) := hh
      clear hb hh
      have hgpc := (grant_cell HT4.out.s).2.1
      have hgpf := grant_frozen HT4.out.s 1
      rw [E1.out] at hgpc
      simp only [List.length_cons] at hgpc
      have hbsz : L.bs ≠ L.sgb := (ndS HT4.out.nd).1.2.2.2.2.1
      have HNs : Hid (w.heap.size ≠ L.sgb) := by have := own_lt HT.out.gp; show _ ≠ _; omega
      have Hz : Hid (Calls Tryd.prog 29 #[.slice (some ⟨L.sgb, 0, none⟩) (grest.length + 1) A1.cg, .func (.func 30) #[] #[.pointer (some ⟨w.heap.size + 1, 0, none⟩)]] W2.drew fun e w4 => e = .returned (.slice (some ⟨L.sgb, 0, none⟩) grest.length A1.cg) ∧
          Hid (w4.ownsRow L.B 32 1 (.slice (some ⟨L.sgb, 0, none⟩) grest.length A1.cg) grest.length (grest.map ptr) ∧ One L.sgb W2 w4) ∧ w4.cell? ⟨w.heap.size, 0, none⟩ = some (.pointer (some ⟨L.bs, 0, none⟩)) ∧
          w4.cell? ⟨L.bs, 1, none⟩ = some (.slice (some ⟨L.sgb, 0, none⟩) (grest.length + 1) A1.cg) ∧ w4.frozen? ⟨L.bs, 1, none⟩ = false) := by
        refine (z29 L.B L.sgb A1.cg L.bg (w.heap.size + 1) grest W2.drew (by have := HT4.out.sz.2.2.1; rw [E1.out] at this; simp at this; omega) (by have := HT4.out.gp; rw [E1.out] at this; exact this) hbg (by have := own_lt HT.out.gp; omega) Hg.out.2 (fun x hx => by rw [← E1.out] at hx; exact HT4.out.th x (HT4.out.tg x hx))).mono ?_
        rintro e w4 ⟨rfl, ho, hgr⟩
        have o1 : One L.sgb W2 w4 := ⟨hgr.os, hgr.tape, hgr.output, hgr.size, fun k hk hne => hgr.block k hk (by simpa using hne)⟩
        exact ⟨rfl, ⟨ho, o1⟩, o1.cell hbs HNs.out, o1.cell hgpc hbsz, (World.frozen?_of_block (o1.block L.bs (World.block_lt_of_cell? _ _ hgpc) hbsz)).trans hgpf⟩
      go_wp2_with fail
      go_cut [] from 55 to 63 (fun wx => Hid (Tb wx L { A1 with gps := grest } ∧ Bx wx w.heap.size L.bs L.bg ∧ Fr L w wx))
      case first =>
        have HR : Hid (∀ w4, w4.ownsRow L.B 32 1 (.slice (some ⟨L.sgb, 0, none⟩) grest.length A1.cg) grest.length (grest.map ptr) → One L.sgb W2 w4 → Hid (Tb (w4.setCell ⟨L.bs, 1, none⟩ (.slice (some ⟨L.sgb, 0, none⟩) grest.length A1.cg)) L { A1 with gps := grest } ∧ Bx (w4.setCell ⟨L.bs, 1, none⟩ (.slice (some ⟨L.sgb, 0, none⟩) grest.length A1.cg)) w.heap.size L.bs L.bg ∧ Fr L w (w4.setCell ⟨L.bs, 1, none⟩ (.slice (some ⟨L.sgb, 0, none⟩) grest.length A1.cg)))) := by
          intro w4 ho o1
          have o2 := One.setCell w4 L.bs 1 (.slice (some ⟨L.sgb, 0, none⟩) grest.length A1.cg)
          refine ⟨HT4.out.gpus o1 o2 grest (by intro b hb; rw [E1.out]; exact List.mem_cons_of_mem _ hb) (by rw [E1.out]; simp) (grant_set1 (o1.heap HT4.out.s hbsz) _) ho, (HBx4.out.one o1 (own_lt HT.out.gp)).one o2 (Array.getElem?_eq_some_iff.1 HT.out.s).1, (HFr4.out.trans (o1.fr (by simp))).trans (o2.fr (by simp))⟩
        clear HT4 HBx4 HFr4 HT E1 E2 Hh HNs Hg Hn HU HrU
        go_region_with (first | (go_at_call 29; refine Hz.out.mono ?_; rintro e w4 ⟨rfl, ho, q1, q2, q3⟩))
        all_goals
          go_wp2_with fail
          go_meet
          case rel => exact HR.out _ ho.out.1 ho.out.2
      case rest =>
        clear HT4 HBx4 HFr4 Hz HNs hgpc hgpf hbs hbg
        have c1 := (grant_cell hcut.out.1.s).1
        have hb1 := hcut.out.2.1.cell.1
        have hb2 := hcut.out.2.1.cell.2
        simp only at c1
        go_upto_if 67 with fail
        go_cut [] from 55 to 72 (fun wx => ∃ ch', Hid (Tb wx { L with ch := ch' } { A1 with gps := grest, wh := !A1.sw && A1.wh } ∧ Bx wx w.heap.size L.bs L.bg ∧ Fr L w wx))
        case first =>
          cases hsw : A1.sw
          · have Hrel : Hid (∃ ch', Hid (Tb wc { L with ch := ch' } { A1 with gps := grest, wh := !A1.sw && A1.wh } ∧ Bx wc w.heap.size L.bs L.bg ∧ Fr L w wc)) := by
              have e : (!A1.sw && A1.wh) = A1.wh := by rw [hsw]; simp
              rw [e]
              exact ⟨L.ch, hcut⟩
            clear hcut
            go_wp2_with fail
            go_meet
            case rel => exact Hrel.out
          · have c2 := (gpu_cell hcut.out.1.g).2.2.2.2
            have c2f := gpu_frozen hcut.out.1.g 20
            have o1 := One.setCell wc L.bg 20 (.bool false)
            have HT5 : Hid (Tb (wc.setCell ⟨L.bg, 20, none⟩ (.bool false)) L { A1 with gps := grest, wh := false }) := hcut.out.1.gpu o1 A1.f0 A1.f1 false (gpu_set20 hcut.out.1.g _)
            have HBx5 : Hid (Bx (wc.setCell ⟨L.bg, 20, none⟩ (.bool false)) w.heap.size L.bs L.bg) := hcut.out.2.1.one o1 (Array.getElem?_eq_some_iff.1 HT.out.g).1
            have HFr5 : Hid (Fr L w (wc.setCell ⟨L.bg, 20, none⟩ (.bool false))) := hcut.out.2.2.trans (o1.fr (by simp))
            clear hcut o1
            simp only at c2
            go_wp2_with fail
            clear c1 hb1 hb2 c2 c2f
            generalize wc.setCell ⟨L.bg, 20, none⟩ (.bool false) = W5 at HT5 HBx5 HFr5 ⊢
            refine (z31 L.bn L.ch W5 (node_cell HT5.out.n).2 (node_frozen HT5.out.n 10) HT5.out.c (ndS HT5.out.nd).2.2.1.2.2.2.2).mono ?_
            rintro e w6 ⟨rfl, hw6⟩
            have R6 := chan_step HT5.out HBx5.out HFr5.out ⟨(Array.getElem?_eq_some_iff.1 HT.out.n).1, (Array.getElem?_eq_some_iff.1 HT.out.c).1⟩ hw6
            have Hrel : Hid (∃ ch', Hid (Tb w6 { L with ch := ch' } { A1 with gps := grest, wh := !A1.sw && A1.wh } ∧ Bx w6 w.heap.size L.bs L.bg ∧ Fr L w w6)) := by
              have e : (!A1.sw && A1.wh) = false := by rw [hsw]; simp
              rw [e]
              exact ⟨W5.heap.size, R6⟩
            clear R6 hw6 HT5 HBx5 HFr5
            go_wp2_with fail
            go_meet
            case rel => exact Hrel.out
        case rest =>
          obtain ⟨ch', hcut2⟩ := hcut
          have hb3 := hcut2.out.2.1.cell.1
          have c3 := (grant_cell hcut2.out.1.s).2.1
          simp only at c3
          by_cases hgr : grest = []
          · have HG : Hid (grest = []) := hgr
            rw [hgr] at c3
            simp only [List.length_nil] at c3
            clear hgr
            have c4 := (node_cell hcut2.out.1.n).1
            have c4f := node_frozen hcut2.out.1.n 6
            simp only [E2.out, List.length_cons] at c4
            have hne : L.bn ≠ L.gb := (ndS hcut2.out.1.nd).2.2.1.2.2.2.1
            have Hz2 : Hid (Calls Tryd.prog 32 #[.slice (some ⟨L.gb, 0, none⟩) (nrest.length + 1) A1.cn, .func (.func 33) #[] #[.pointer (some ⟨w.heap.size, 0, none⟩)]] wc fun e w7 => e = .returned (.slice (some ⟨L.gb, 0, none⟩) nrest.length A1.cn) ∧
                Hid (w7.ownsRow L.B 31 1 (.slice (some ⟨L.gb, 0, none⟩) nrest.length A1.cn) nrest.length (nrest.map ptr) ∧ One L.gb wc w7) ∧
                w7.cell? ⟨L.bn, 6, none⟩ = some (.slice (some ⟨L.gb, 0, none⟩) (nrest.length + 1) A1.cn) ∧ w7.frozen? ⟨L.bn, 6, none⟩ = false) := by
              refine (z32 L.B L.gb A1.cn L.bs w.heap.size nrest wc (by have := hcut2.out.1.sz.2.2.2; simp only [E2.out, List.length_cons] at this; omega) (by have := hcut2.out.1.gr; simp only [E2.out] at this; exact this) hb3 (by have := own_lt HT.out.gr; omega) Hn.out.2 (fun x hx => by rw [← E2.out] at hx; exact hcut2.out.1.th x (hcut2.out.1.tn x hx))).mono ?_
              rintro e w7 ⟨rfl, ho, hgr⟩
              have o1 : One L.gb wc w7 := One.grown hgr
              exact ⟨rfl, ⟨ho, o1⟩, o1.cell c4 hne, (World.frozen?_of_block (o1.block L.bn (World.block_lt_of_cell? _ _ c4) hne)).trans c4f⟩
            have HR : Hid (∀ w7, w7.ownsRow L.B 31 1 (.slice (some ⟨L.gb, 0, none⟩) nrest.length A1.cn) nrest.length (nrest.map ptr) → One L.gb wc w7 →
                TPost L A1 grest nrest w (.returned (.bool true)) (w7.setCell ⟨L.bn, 6, none⟩ (.slice (some ⟨L.gb, 0, none⟩) nrest.length A1.cn))) := by
              intro w7 ho o1
              have o2 := One.setCell w7 L.bn 6 (.slice (some ⟨L.gb, 0, none⟩) nrest.length A1.cn)
              have hT := hcut2.out.1.grants o1 o2 nrest (by intro b hb; simp only [E2.out]; exact List.mem_cons_of_mem _ hb) (by simp only [E2.out, List.length_cons]; omega) (node_set6 (o1.heap hcut2.out.1.n hne) _) ho
              exact ⟨(hcut2.out.2.2.trans (o1.fr (by simp))).trans (o2.fr (by simp)), ch', .inr (.inr ⟨Hh.out, HG.out, rfl, hT⟩)⟩
            clear HG hcut2
            go_wp2_with (go_at_call 32; refine Hz2.out.mono ?_; rintro e w7 ⟨rfl, ho, q2, q3⟩)
            go_ret
            exact HR.out _ ho.out.1 ho.out.2
          · have hpos : 0 < (grest.length : Int) := by
              have : 0 < grest.length := List.length_pos_iff.2 hgr
              omega
            have HR : Hid (TPost L A1 grest nrest w (.returned (.bool false)) wc) := ⟨hcut2.out.2.2, ch', .inr (.inl ⟨Hh.out, hgr, rfl, hcut2.out.1⟩)⟩
            clear hgr hcut2
            go_wp2_with fail
            go_ret
            exact HR.out

end Go.Proofs.Qxb6612650aDoor.tb
