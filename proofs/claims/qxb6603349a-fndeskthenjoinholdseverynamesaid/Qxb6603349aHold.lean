/-
  7: FnDeskThenJoinHoldsEveryName, walked whole.
-/
import Derived.Test.Qxb6603349aNews
namespace Go.Proofs.Qxb6603349a
open Go.RowKit Go.Maps
set_option linter.unusedVariables false

theorem SideIs.more {w1 wr : World} {N M : Nat} {hs' os' : List ByteArray} (h : SideIs w1 wr N hs' os') (hM : N ≤ M) : SideIs w1 wr M hs' os' := by
  obtain ⟨n, f, h0, h1⟩ := h
  exact ⟨n, f, Nat.le_trans h0 hM, h1⟩

theorem SideIs.look {w1 wr : World} {N : Nat} {hs' os' : List ByteArray} (h : SideIs w1 wr N hs' os') (r : ByteArray) : ∃ n f, MapIs wr w1.heap.size n f ∧ ((f r).isSome = false → r ∉ hs' ∧ r ∉ os') ∧ ((f r).isSome = true → r ∈ hs' ∨ r ∈ os') := by
  obtain ⟨n, f, _, hmap, h1, h2, h3, _⟩ := h
  refine ⟨n, f, hmap, fun h => ⟨fun e => ?_, fun e => ?_⟩, h3 r⟩
  · rw [h1 r e] at h; cases h
  · rw [h2 r e] at h; cases h

set_option maxHeartbeats 8000000 in
set_option maxRecDepth 100000 in
theorem hold7 (aH : Option Addr) (nH capH : Nat) (hs : List ByteArray) (aC : Option Addr) (nC capC : Nat) (cs : List ByteArray) (w : World) (hH : StrArg w aH nH hs) (hC : StrArg w aC nC cs) :
    Calls Try.prog 7 #[.slice aH nH capH, .slice aC nC capC] w fun e w' => e = .returned (.bool true) ∧ Below w.heap.size w w' := by
  have c32 := bytes32 aH nH capH hs aC nC capC cs w hH hC
  have c8a := bytes8 aH nH capH hs w hH
  have c8b := bytes8 aC nC capC cs w hC
  have c9 := inc9 aH nH capH hs w hH
  have hmm : ∀ (w : World) (n : Int), (Instr.makeMap 23 (some (.int .i64 n))).run Try.prog w = .ok (.map (some w.heap.size)) (w.alloc (.map #[] 0)) := fun w n => by kernel_rfl
  have hm0 := @run_makeMap Try.prog
  have HlH : Hid (hs.length = nH) := hH.1
  have HlC : Hid (cs.length = nC) := hC.1
  have HmC : Hid (∀ k, (cs.getD k ByteArray.empty).size ≤ maxLen) := hC.mem
  have HmH : Hid (∀ k, (hs.getD k ByteArray.empty).size ≤ maxLen) := hH.mem
  have HsH : Hid (∀ s ∈ hs, s.size ≤ maxLen) := hH.2.2.1
  go_enter Try.func7, Try.ntmps7
  go_wp2_with fail
  refine c32.mono ?_
  rintro e w' ⟨⟨b, rfl⟩, hw⟩
  obtain rfl := hw.symm
  clear c32 hw
  cases b with
  | false =>
    clear c8a c8b c9
    go_wp2
    go_ret
    exact ⟨rfl, Below.refl _ _⟩
  | true =>
  by_cases hn1 : 65536 < nH
  · clear c8a c8b c9
    go_wp2
    go_ret
    exact ⟨rfl, Below.refl _ _⟩
  by_cases hn2 : 65536 < nC
  · clear c8a c8b c9
    go_wp2
    go_ret
    exact ⟨rfl, Below.refl _ _⟩
  go_wp2_with fail
  refine c8a.mono ?_
  rintro e w' ⟨⟨t1, rfl, ht10, ht11⟩, hw⟩
  obtain rfl := hw.symm
  clear c8a hw
  go_wp2_with fail
  refine c8b.mono ?_
  rintro e w' ⟨⟨t2, rfl, ht20, ht21⟩, hw⟩
  obtain rfl := hw.symm
  clear c8b hw
  by_cases htb : 1048576 < t1 + t2
  · clear c9
    go_wp2
    go_ret
    exact ⟨rfl, Below.refl _ _⟩
  go_wp2_with fail
  refine c9.mono ?_
  rintro e w1 ⟨⟨b, rfl, hinc⟩, hsame⟩
  clear c9
  cases b with
  | false =>
    clear hinc hH hC
    go_wp2
    go_ret
    exact ⟨rfl, hsame.below _⟩
  | true =>
  have hI : Hid (Inc hs) := hinc rfl
  have hH1 := hH.same hsame
  have hC1 := hC.same hsame
  have hb1 : Hid (Below w.heap.size w w1) := hsame.below _
  clear hinc hH hC hsame
  go_wp2_with fail
  refine (clone11 aH nH capH hs w1 hH1 (by omega)).mono ?_
  rintro e w2 ⟨aH', capH', rfl, cl1⟩
  have hC2 := hC1.below cl1.below hC1.lt
  clear hH1 hC1
  go_wp2_with fail
  refine (clone11 aC nC capC cs w2 hC2 (by omega)).mono ?_
  rintro e wA ⟨aC', capC', rfl, cl2⟩
  have hHs : Hid (StrArg wA aH' nH hs) := cl1.arg.below cl2.below cl1.arg.lt
  have hCs : Hid (StrArg wA aC' nC cs) := cl2.arg
  have hbA : Hid (Below w.heap.size w wA) := (hb1.out.trans (cl1.below.mono hb1.out.size)).trans (cl2.below.mono (by have := hb1.out.size; have := cl1.below.size; omega))
  clear hC2 cl1 cl2 hb1 hm0
  go_wp2
  go_loopw [6] (fun i wr => ∃ k : Nat, k ≤ nH ∧ i = .int .i64 k ∧ Hid (SideIs wA wr k (hs.take k) [])) (fun i _ => nH - (intOf i).toNat)
  case atStart => exact ⟨0, Nat.zero_le _, rfl, SideIs.start wA⟩
  case round =>
  obtain ⟨k, hk, rfl, hto⟩ := hrel
  by_cases hkl : k < nH
  · obtain ⟨g, off, ha, hc⟩ := hHs.out.2.2.2 (by omega)
    have hgl : g < wA.heap.size := hHs.out.lt _ ha (by omega)
    have hrow := (hto.out.below.cell (p := ⟨g, off + k, none⟩) hgl).trans (hc k hkl)
    have hrm := HmH.out k
    have htk : Hid (hs.take (k + 1) = hs.take k ++ [hs.getD k ByteArray.empty]) := take_snoc_getD (by rw [HlH.out]; exact hkl)
    subst ha
    generalize hs.getD k ByteArray.empty = r at hrow hrm htk
    clear hc hHs hCs
    go_wp2_with (at_mapUpdate; refine wpList_side1 rfl _ _ _ rfl wA.heap.size r rfl rfl rfl rfl hto.out hrm (by omega) ?_; intro w5 hto5)
    rw [← htk.out] at hto5
    go_roundw
    case rel => exact ⟨k + 1, by omega, by go_num, hto5⟩
    case measure => simp [intOf]; omega
  obtain rfl : nH = k := by omega
  obtain ⟨wB, rfl⟩ : ∃ wo : World, wo = wr := ⟨_, rfl⟩
  have hto0 : Hid (SideIs wA wB nH hs (news hs cs 0)) := by
    have := hto.out
    rw [List.take_of_length_le (by rw [HlH.out]; exact Nat.le_refl _)] at this
    exact this
  clear hto
  go_wp2
  go_loopw [7, 8] (fun vf i wr => ∃ j : Nat, j ≤ nC ∧ i = .int .i64 j ∧ (∃ q : Nat, q ≤ j ∧ vf = .int .i64 q ∧ Hid (q = (news hs cs j).length)) ∧ Hid (SideIs wA wr (nH + j) hs (news hs cs j))) (fun _ i _ => nC - (intOf i).toNat)
  case atStart => exact ⟨0, Nat.zero_le _, rfl, ⟨0, Nat.le_refl _, rfl, (show _ = _ from rfl)⟩, hto0⟩
  case round =>
  clear hto0
  obtain ⟨j, hj, rfl, ⟨q, hqj, rfl, hq⟩, hto⟩ := hrel
  by_cases hjl : j < nC
  · obtain ⟨g, off, ha, hc⟩ := hCs.out.2.2.2 (by omega)
    have hgl : g < wA.heap.size := hCs.out.lt _ ha (by omega)
    have hrow := (hto.out.below.cell (p := ⟨g, off + j, none⟩) hgl).trans (hc j hjl)
    have hrm := HmC.out j
    subst ha
    obtain ⟨nf, f, hmap, hmiss, hhit⟩ := hto.out.look (cs.getD j ByteArray.empty)
    have hnx1 : Hid ((f (cs.getD j ByteArray.empty)).isSome = true → news hs cs (j + 1) = news hs cs j) := fun h => by
      rcases hhit h with h | h
      · exact news_old (Or.inl (idx_mem h))
      · exact news_old (Or.inr (idx_mem h))
    have hnx2 : Hid ((f (cs.getD j ByteArray.empty)).isSome = false → news hs cs (j + 1) = news hs cs j ++ [cs.getD j ByteArray.empty] ∧ cs.getD j ByteArray.empty ∉ hs) := fun h => by
      obtain ⟨a, b⟩ := hmiss h
      exact ⟨news_new (idx_none a) (idx_none b), a⟩
    clear hmiss hhit
    generalize cs.getD j ByteArray.empty = r at hrow hrm hnx1 hnx2
    clear hc hHs hCs HmC HmH
    cases h1 : f r with
    | some v =>
      have hi1 : (f r).getD 0 = v := by rw [h1]; rfl
      have hi2 : (f r).isSome = true := by rw [h1]; rfl
      have hE := hnx1.out hi2
      have hto6 : Hid (SideIs wA wr (nH + (j + 1)) hs (news hs cs (j + 1))) := by rw [hE]; exact hto.out.more (by omega)
      have hq6 : Hid (q = (news hs cs (j + 1)).length) := by rw [hE]; exact hq.out
      clear h1 hnx1 hnx2 hE
      go_wp2_with (at_lookup; refine wpList_look' _ rfl _ _ rfl wA.heap.size nf f r v true rfl rfl hmap hrm hi1 hi2 ?_)
      go_roundw
      case rel => exact ⟨j + 1, by omega, by go_num, ⟨q, by omega, rfl, hq6⟩, hto6⟩
      case measure => simp [intOf]; omega
    | none =>
      have hi1 : (f r).getD 0 = 0 := by rw [h1]; rfl
      have hi2 : (f r).isSome = false := by rw [h1]; rfl
      obtain ⟨hE, hnr⟩ := hnx2.out hi2
      have HE : Hid (news hs cs (j + 1) = news hs cs j ++ [r] ∧ r ∉ hs) := ⟨hE, hnr⟩
      have hq6 : Hid (q + 1 = (news hs cs (j + 1)).length) := by rw [hE]; have := hq.out; exact (show _ = _ by simp; omega)
      clear h1 hnx1 hnx2 hE hnr
      go_wp2_with (first
        | (at_lookup; refine wpList_look' _ rfl _ _ rfl wA.heap.size nf f r 0 false rfl rfl hmap hrm hi1 hi2 ?_)
        | (at_mapUpdate; refine wpList_side2 rfl _ _ _ rfl wA.heap.size r rfl rfl rfl rfl hto.out HE.out.2 hrm (by omega) ?_; intro w5 hto5))
      rw [← HE.out.1] at hto5
      go_roundw
      case rel => exact ⟨j + 1, by omega, by go_num, ⟨q + 1, by omega, by go_num, hq6⟩, hto5⟩
      case measure => simp [intOf]; omega
  obtain rfl : nC = j := by omega
  obtain ⟨wC, rfl⟩ : ∃ wo : World, wo = wr := ⟨_, rfl⟩
  have hHC : Hid (StrArg wC aH' nH hs) := hHs.out.below hto.out.below hHs.out.lt
  have hCC : Hid (StrArg wC aC' nC cs) := hCs.out.below hto.out.below hCs.out.lt
  have hbC : Hid (Below w.heap.size w wC) := hbA.out.trans (hto.out.below.mono hbA.out.size)
  clear hHs hCs hbA
  obtain ⟨nf, f, _, hmap, hf1, hf2, hf3, _, _⟩ := hto.out
  have HF : Hid ((∀ s ∈ hs, f s = some 1) ∧ (∀ s ∈ news hs cs nC, f s = some 2)) := ⟨hf1, hf2⟩
  have HMAP : Hid (MapIs wC wA.heap.size nf f) := hmap
  clear hf1 hf2 hf3 hmap hto
  generalize wA.heap.size = bs at *
  go_wp2_with fail
  refine (accounts12 aH' nH capH' hs wC hHC.out (by omega)).mono ?_
  rintro e wD ⟨aR, capR, rfl, acc1⟩
  obtain ⟨gR, rfl⟩ := acc1.addr
  have ACC : Hid (Accounted wC wD (some ⟨gR, 0, none⟩) capR hs) := acc1
  clear acc1
  go_wp2_with fail
  refine (newRegister20 (some ⟨gR, 0, none⟩) nH capR wD).mono ?_
  rintro e wE ⟨rfl, hwE⟩
  have bDE : Below wD.heap.size wD wE := by rw [hwE]; exact (Below.refl _ _).alloc (Nat.le_refl _) _
  have sE : wE.heap.size = wD.heap.size + 1 := by rw [hwE]; simp
  have hregE : Hid (RegAt wE wD.heap.size (some ⟨gR, 0, none⟩) hs.length capR) := by
    rw [HlH.out]
    exact (show _ = _ by rw [hwE]; exact heap_alloc_new wD _)
  have hRE : Hid (wE.ownsRow wC.heap.size 42 5 (.slice (some ⟨gR, 0, none⟩) hs.length capR) hs.length (accRow hs)) := owns_ext ACC.out.owns (Ext.of_below bDE fun _ => False) (fun _ _ e => e)
  have bCE : Hid (Below wC.heap.size wC wE) := ACC.out.below.trans (bDE.mono ACC.out.below.size)
  obtain ⟨br, hbr⟩ : ∃ br, br = wD.heap.size := ⟨_, rfl⟩
  rw [← hbr] at hregE ⊢
  have HBR : Hid (wC.heap.size ≤ br ∧ wC.heap.size ≤ gR ∧ gR < wE.heap.size ∧ wC.heap.size ≤ wE.heap.size) := by
    obtain ⟨hg1, cur, hc⟩ := owns_block hRE.out (b := gR) rfl
    have h1 := ACC.out.below.size
    have h2 := bCE.out.size
    have h3 := lt_of_block hc
    exact ⟨by omega, hg1, h3, h2⟩
  have hDL0 : Hid (DL wE ((wE.alloc (.map #[] 0)).alloc (.cells #[.pointer (some ⟨br, 0, none⟩), .slice none 0 0, .map (some wE.heap.size)] 69)) (wE.heap.size + 1) br wE.heap.size (some ⟨gR, 0, none⟩) capR hs cs 0) :=
    DL.start cs hregE.out (accArg_of_owns hRE.out HsH.out) hI.out
  clear hwE bDE sE hregE ACC hbr
  have hm0 := @run_makeMap Try.prog
  go_wp2_with fail
  refine (newDesk25 br none 0 0 wE.heap.size (wE.alloc (.map #[] 0))).mono ?_
  rintro e wF ⟨rfl, hwF⟩
  rw [← hwF] at hDL0
  clear hwF hm0
  rw [show (wE.alloc (.map #[] 0)).heap.size = wE.heap.size + 1 from by simp]
  obtain ⟨bd, hbd⟩ : ∃ bd, bd = wE.heap.size + 1 := ⟨_, rfl⟩
  obtain ⟨bi, hbi⟩ : ∃ bi, bi = wE.heap.size := ⟨_, rfl⟩
  have hDL1 : Hid (DL wE wF bd br bi (some ⟨gR, 0, none⟩) capR hs cs 0) := by rw [hbd, hbi]; exact hDL0.out
  rw [← hbd]
  clear hDL0 hbd hbi
  go_wp2
  go_loopw [13] (fun i wr => ∃ j : Nat, j ≤ nC ∧ i = .int .i64 j ∧ Hid (DL wE wr bd br bi (some ⟨gR, 0, none⟩) capR hs cs j)) (fun i _ => nC - (intOf i).toNat)
  case atStart => exact ⟨0, Nat.zero_le _, rfl, hDL1⟩
  case round =>
  clear hDL1
  obtain ⟨j, hj, rfl, hDL⟩ := hrel
  by_cases hjl : j < nC
  · obtain ⟨aD, capD, hst, hbw, hd1, hd2⟩ := hDL.out
    obtain ⟨g, off, ha, hc⟩ := hCC.out.2.2.2 (by omega)
    have hgl : g < wC.heap.size := hCC.out.lt _ ha (by omega)
    have hrow := ((bCE.out.trans (hbw.mono HBR.out.2.2.2)).cell (p := ⟨g, off + j, none⟩) hgl).trans (hc j hjl)
    have hrm := HmC.out j
    have hnl := news_len hs cs j
    have c26 := account26 bd br bi wE.heap.size (some ⟨gR, 0, none⟩) capR hs aD capD (news hs cs j) (cs.getD j ByteArray.empty) wr hst (by rw [HlH.out]; omega) (by omega) hrm
    have hstep : Hid (∀ w' p, Answered wr w' bd br bi wE.heap.size (some ⟨gR, 0, none⟩) capR hs aD capD (news hs cs j) (cs.getD j ByteArray.empty) p → DL wE w' bd br bi (some ⟨gR, 0, none⟩) capR hs cs (j + 1) ∧ ∃ x, p = some x) := fun w' p ha => DL.step hst hbw hd1 hd2 ha
    subst ha
    generalize cs.getD j ByteArray.empty = r at hrow c26 hstep
    clear hst hbw hc hDL hrm hnl
    go_wp2_with fail
    refine c26.mono ?_
    rintro e w5 ⟨p, rfl, hans⟩
    obtain ⟨hnx, x, rfl⟩ := hstep.out w5 p hans
    have HNX : Hid (DL wE w5 bd br bi (some ⟨gR, 0, none⟩) capR hs cs (j + 1)) := hnx
    clear c26 hans hnx hstep
    go_wp2
    go_roundw
    case rel => exact ⟨j + 1, by omega, by go_num, HNX⟩
    case measure => simp [intOf]; omega
  obtain rfl : nC = j := by omega
  obtain ⟨wG, rfl⟩ : ∃ wo : World, wo = wr := ⟨_, rfl⟩
  obtain ⟨aD, capD, hst, hbw, hd1, hd2⟩ := hDL.out
  have bCG : Hid (Below wC.heap.size wC wG) := bCE.out.trans (hbw.mono HBR.out.2.2.2)
  obtain ⟨nf1, nf2, nf3⟩ := news_facts hs cs nC
  have c30 := deskOpened30 bd br aD (news hs cs nC).length capD bi wG hst.desk
  rw [← hq.out] at c30
  have c21 := join21R br wC.heap.size wE.heap.size gR nH capR hs aD q capD (news hs cs nC) wG HlH hq.out.symm (by have := hst.reg; rw [HlH.out] at this; exact this) (owns_ext hRE.out ⟨hbw.os, hbw.tape, hbw.output, hbw.size, fun k hk _ => hbw.block k hk⟩ (S := fun _ => False) (fun _ _ e => e)) hst.opened HBR.out.2.2.1 bCG.out.size hI.out nf1 (fun s hs' => (nf2 s hs').1) HsH.out hst.sizes (by omega) (by omega)
  have HALL : Hid (∀ i, i < nC → cs.getD i ByteArray.empty ∈ hs ∨ cs.getD i ByteArray.empty ∈ news hs cs nC) := nf3
  clear hst hbw hDL nf1 nf2 nf3 hRE
  go_wp2_with fail
  refine c30.mono ?_
  rintro e w5 ⟨rfl, hw⟩
  obtain rfl := hw.symm
  clear hw c30
  go_wp2_with fail
  refine c21.mono ?_
  rintro e wJ ⟨rfl, R, aR', capR', hJ⟩
  clear c21
  have JR : Hid (JoinedR wG wJ br hs (news hs cs nC) R aR' capR' (fun k => k = br ∨ k = gR ∨ wE.heap.size ≤ k)) := hJ
  clear hJ
  have bCJ : Hid (Below wC.heap.size wC wJ) := Ext.below bCG.out bCG.out.size JR.out.ext (by
    have h := HBR.out
    rintro i (e | e | e) <;> omega)
  have HRL : Hid (R.length = nH + q) := by have h := JR.out.lenR; rw [HlH.out, ← hq.out] at h; exact h
  have hmapJ := HMAP.out.below bCJ.out HMAP.out.lt
  have hsdR : Sided f 0 R := fun s hs' => by
    rcases (JR.out.memR s).1 hs' with h | h
    · exact ⟨1, HF.out.1 s h, fun h => absurd rfl h⟩
    · exact ⟨2, HF.out.2 s h, fun h => absurd rfl h⟩
  have c23 := registerAccounts23 br aR' R.length capR' wJ JR.out.reg
  have c22 := sortedOver22 aR' R.length capR' R bs nf f 0 wJ JR.out.racc hmapJ JR.out.incR hsdR (by rw [HRL.out]; omega) (Or.inl rfl)
  rw [HRL.out] at c23 c22
  rw [show ((nH + q : Nat) : Int) = (nH : Int) + (q : Int) from by omega] at c22
  clear hmapJ hsdR HMAP HF bCG bCE HBR hd1 hd2
  go_wp2_with fail
  refine c23.mono ?_
  rintro e w5 ⟨rfl, hw5⟩
  obtain rfl := hw5.symm
  clear hw5 c23
  go_wp2_with fail
  refine c22.mono ?_
  rintro e wL ⟨rfl, hbL⟩
  clear c22
  have bCL : Hid (Below wC.heap.size wC wL) := bCJ.out.trans (hbL.mono bCJ.out.size)
  have hregL : RegAt wL br aR' R.length capR' := (hbL.block br (lt_of_block JR.out.reg)).trans JR.out.reg
  have haccL : AccArg wL aR' R.length R := JR.out.racc.below hbL JR.out.racc.lt
  have hDL0 : Hid (DL wL ((wL.alloc (.map #[] 0)).alloc (.cells #[.pointer (some ⟨br, 0, none⟩), .slice none 0 0, .map (some wL.heap.size)] 69)) (wL.heap.size + 1) br wL.heap.size aR' capR' R hs 0) := DL.start hs hregL haccL JR.out.incR
  clear hregL haccL hbL bCJ
  have hm0 := @run_makeMap Try.prog
  go_wp2_with fail
  refine (newDesk25 br none 0 0 wL.heap.size (wL.alloc (.map #[] 0))).mono ?_
  rintro e wM ⟨rfl, hwM⟩
  rw [← hwM] at hDL0
  clear hwM hm0
  rw [show (wL.alloc (.map #[] 0)).heap.size = wL.heap.size + 1 from by simp]
  obtain ⟨bd2, hbd⟩ : ∃ bd, bd = wL.heap.size + 1 := ⟨_, rfl⟩
  obtain ⟨bi2, hbi⟩ : ∃ bi, bi = wL.heap.size := ⟨_, rfl⟩
  have hDL1 : Hid (DL wL wM bd2 br bi2 aR' capR' R hs 0) := by rw [hbd, hbi]; exact hDL0.out
  rw [← hbd]
  clear hDL0 hbd hbi
  go_wp2
  go_loopw [15] (fun i wr => ∃ j : Nat, j ≤ nH ∧ i = .int .i64 j ∧ Hid (DL wL wr bd2 br bi2 aR' capR' R hs j)) (fun i _ => nH - (intOf i).toNat)
  case atStart => exact ⟨0, Nat.zero_le _, rfl, hDL1⟩
  case round =>
  clear hDL1
  obtain ⟨j, hj, rfl, hDL⟩ := hrel
  by_cases hjl : j < nH
  · obtain ⟨aD2, capD2, hst, hbw, hd1, hd2⟩ := hDL.out
    obtain ⟨g, off, ha, hc⟩ := hHC.out.2.2.2 (by omega)
    have hgl : g < wC.heap.size := hHC.out.lt _ ha (by omega)
    have hrow := ((bCL.out.trans (hbw.mono bCL.out.size)).cell (p := ⟨g, off + j, none⟩) hgl).trans (hc j hjl)
    have hrm := HmH.out j
    have hnl := news_len R hs j
    have c26 := account26 bd2 br bi2 wL.heap.size aR' capR' R aD2 capD2 (news R hs j) (hs.getD j ByteArray.empty) wr hst (by rw [HRL.out]; omega) (by omega) hrm
    have hstep : Hid (∀ w' p, Answered wr w' bd2 br bi2 wL.heap.size aR' capR' R aD2 capD2 (news R hs j) (hs.getD j ByteArray.empty) p → DL wL w' bd2 br bi2 aR' capR' R hs (j + 1) ∧ ∃ x, p = some x) := fun w' p ha => DL.step hst hbw hd1 hd2 ha
    subst ha
    generalize hs.getD j ByteArray.empty = r at hrow c26 hstep
    clear hst hbw hc hDL hrm hnl
    go_wp2_with fail
    refine c26.mono ?_
    rintro e w5 ⟨p, rfl, hans⟩
    obtain ⟨hnx, x, rfl⟩ := hstep.out w5 p hans
    have HNX : Hid (DL wL w5 bd2 br bi2 aR' capR' R hs (j + 1)) := hnx
    clear c26 hans hnx hstep
    go_wp2
    go_roundw
    case rel => exact ⟨j + 1, by omega, by go_num, HNX⟩
    case measure => simp [intOf]; omega
  obtain rfl : nH = j := by omega
  have nH0 : news R hs nH = [] := news_none (fun i => by
    by_cases hi : i < hs.length
    · refine Or.inl ((JR.out.memR _).2 (Or.inl ?_))
      rw [List.getD_eq_getElem?_getD, List.getElem?_eq_getElem hi]
      simp
    · exact Or.inr hi) nH (by rw [HlH.out]; exact Nat.le_refl _)
  have hDL2 : Hid (DL wL wr bd2 br bi2 aR' capR' R cs 0) := by
    obtain ⟨aD2, capD2, hst, r⟩ := hDL.out
    rw [nH0] at hst
    exact ⟨aD2, capD2, hst, r⟩
  clear hDL nH0
  obtain ⟨wN, rfl⟩ : ∃ wo : World, wo = wr := ⟨_, rfl⟩
  go_wp2
  go_loopw [16] (fun i wr => ∃ j : Nat, j ≤ nC ∧ i = .int .i64 j ∧ Hid (DL wL wr bd2 br bi2 aR' capR' R cs j)) (fun i _ => nC - (intOf i).toNat)
  case atStart => exact ⟨0, Nat.zero_le _, rfl, hDL2⟩
  case round =>
  clear hDL2
  obtain ⟨j, hj, rfl, hDL⟩ := hrel
  by_cases hjl : j < nC
  · obtain ⟨aD2, capD2, hst, hbw, hd1, hd2⟩ := hDL.out
    obtain ⟨g, off, ha, hc⟩ := hCC.out.2.2.2 (by omega)
    have hgl : g < wC.heap.size := hCC.out.lt _ ha (by omega)
    have hrow := ((bCL.out.trans (hbw.mono bCL.out.size)).cell (p := ⟨g, off + j, none⟩) hgl).trans (hc j hjl)
    have hrm := HmC.out j
    have hnl := news_len R cs j
    have c26 := account26 bd2 br bi2 wL.heap.size aR' capR' R aD2 capD2 (news R cs j) (cs.getD j ByteArray.empty) wr hst (by rw [HRL.out]; omega) (by omega) hrm
    have hstep : Hid (∀ w' p, Answered wr w' bd2 br bi2 wL.heap.size aR' capR' R aD2 capD2 (news R cs j) (cs.getD j ByteArray.empty) p → DL wL w' bd2 br bi2 aR' capR' R cs (j + 1) ∧ ∃ x, p = some x) := fun w' p ha => DL.step hst hbw hd1 hd2 ha
    subst ha
    generalize cs.getD j ByteArray.empty = r at hrow c26 hstep
    clear hst hbw hc hDL hrm hnl
    go_wp2_with fail
    refine c26.mono ?_
    rintro e w5 ⟨p, rfl, hans⟩
    obtain ⟨hnx, x, rfl⟩ := hstep.out w5 p hans
    have HNX : Hid (DL wL w5 bd2 br bi2 aR' capR' R cs (j + 1)) := hnx
    clear c26 hans hnx hstep
    go_wp2
    go_roundw
    case rel => exact ⟨j + 1, by omega, by go_num, HNX⟩
    case measure => simp [intOf]; omega
  obtain rfl : nC = j := by omega
  have nC0 : news R cs nC = [] := news_none (fun i => by
    by_cases hi : i < cs.length
    · exact Or.inl ((JR.out.memR _).2 (HALL.out i (by rw [← HlC.out]; exact hi)))
    · exact Or.inr hi) nC (by rw [HlC.out]; exact Nat.le_refl _)
  obtain ⟨aD2, capD2, hst, hbw, hd1, hd2⟩ := hDL.out
  rw [nC0] at hst
  have hbF : Hid (Below w.heap.size w wr) := hbC.out.trans ((bCL.out.trans (hbw.mono bCL.out.size)).mono hbC.out.size)
  have c30 := deskOpened30 bd2 br aD2 0 capD2 bi2 wr hst.desk
  have c31 := deskIndex31 bd2 br aD2 0 capD2 bi2 wr hst.desk
  have hml := hst.index.len 3
  obtain ⟨wP, rfl⟩ : ∃ wo : World, wo = wr := ⟨_, rfl⟩
  clear hst hbw hDL nC0 hd1 hd2
  go_wp2_with fail
  refine c30.mono ?_
  rintro e w5 ⟨rfl, hw⟩
  obtain rfl := hw.symm
  clear hw c30
  go_wp2_with fail
  refine c31.mono ?_
  rintro e w5 ⟨rfl, hw⟩
  obtain rfl := hw.symm
  clear hw c31
  go_wp2
  go_ret
  exact ⟨rfl, hbF.out⟩
end Go.Proofs.Qxb6603349a
