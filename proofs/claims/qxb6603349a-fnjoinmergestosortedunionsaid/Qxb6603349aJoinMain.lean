/-
  5: FnJoinMergesToSortedUnion, walked whole.
-/
import Derived.Test.Qxb6603349aJoinScript
namespace Go.Proofs.Qxb6603349a
open Go.RowKit Go.Maps
set_option linter.unusedVariables false

set_option maxHeartbeats 4000000 in
set_option maxRecDepth 100000 in
theorem joinScript5 (aH : Option Addr) (nH capH : Nat) (hs : List ByteArray) (aO : Option Addr) (nO capO : Nat) (os : List ByteArray) (w : World) (hH : StrArg w aH nH hs) (hO : StrArg w aO nO os) :
    Calls Try.prog 5 #[.slice aH nH capH, .slice aO nO capO] w fun e w' => e = .returned (.bool true) ∧ Below w.heap.size w w' := by
  have c19 := bytes19 aH nH capH hs aO nO capO os w hH hO
  have c8a := bytes8 aH nH capH hs w hH
  have c8b := bytes8 aO nO capO os w hO
  have c9 := inc9 aH nH capH hs w hH
  have hmm : ∀ (w : World) (n : Int), (Instr.makeMap 23 (some (.int .i64 n))).run Try.prog w = .ok (.map (some w.heap.size)) (w.alloc (.map #[] 0)) := fun w n => by kernel_rfl
  have HlH : Hid (hs.length = nH) := hH.1
  have HlO : Hid (os.length = nO) := hO.1
  have hmO := hO.mem
  have hmH := hH.mem
  go_enter Try.func5, Try.ntmps5
  go_wp2_with fail
  refine c19.mono ?_
  rintro e w' ⟨⟨b, rfl⟩, hw⟩
  obtain rfl := hw.symm
  clear c19 hw
  cases b with
  | false =>
    clear c8a c8b c9
    go_wp2
    go_ret
    exact ⟨rfl, Below.refl _ _⟩
  | true =>
  by_cases hn1 : 65536 < nH
  · clear c8a c8b c9
    go_wp2
    go_ret
    exact ⟨rfl, Below.refl _ _⟩
  by_cases hn2 : 65536 < nO
  · clear c8a c8b c9
    go_wp2
    go_ret
    exact ⟨rfl, Below.refl _ _⟩
  go_wp2_with fail
  refine c8a.mono ?_
  rintro e w' ⟨⟨t1, rfl, ht10, ht11⟩, hw⟩
  obtain rfl := hw.symm
  clear c8a hw
  go_wp2_with fail
  refine c8b.mono ?_
  rintro e w' ⟨⟨t2, rfl, ht20, ht21⟩, hw⟩
  obtain rfl := hw.symm
  clear c8b hw
  by_cases htb : 1048576 < t1 + t2
  · clear c9
    go_wp2
    go_ret
    exact ⟨rfl, Below.refl _ _⟩
  go_wp2_with fail
  refine c9.mono ?_
  rintro e wA ⟨⟨b, rfl, hinc⟩, hsame⟩
  clear c9
  cases b with
  | false =>
    clear hinc hH hO
    go_wp2
    go_ret
    exact ⟨rfl, hsame.below _⟩
  | true =>
  have hI : Hid (Inc hs) := hinc rfl
  have hH1 := hH.same hsame
  have hO1 := hO.same hsame
  have hbA : Below w.heap.size w wA := hsame.below _
  clear hinc hH hO hsame
  have hHlt := hH1.lt
  have hHs := hH1
  obtain ⟨_, _, _, hH4⟩ := hH1
  go_wp2
  go_loopw [6] (fun i wr => ∃ k : Nat, k ≤ nH ∧ i = .int .i64 k ∧ SideIs wA wr k (hs.take k) []) (fun i _ => nH - (intOf i).toNat)
  case atStart => exact ⟨0, Nat.zero_le _, rfl, SideIs.start wA⟩
  case round =>
  obtain ⟨k, hk, rfl, hto⟩ := hrel
  by_cases hkl : k < nH
  · obtain ⟨g, off, ha, hc⟩ := hH4 (by omega)
    have hgl : g < wA.heap.size := hHlt _ ha (by omega)
    have hrow := (hto.below.cell (p := ⟨g, off + k, none⟩) hgl).trans (hc k hkl)
    have hrm := hmH k
    have htk : Hid (hs.take (k + 1) = hs.take k ++ [hs.getD k ByteArray.empty]) := take_snoc_getD (by rw [HlH.out]; exact hkl)
    subst ha
    generalize hs.getD k ByteArray.empty = r at hrow hrm htk
    clear hH4 hc hHlt hHs hO1 hmH hmO
    go_wp2_with (at_mapUpdate; refine wpList_side1 rfl _ _ _ rfl wA.heap.size r rfl rfl rfl rfl hto hrm (by omega) ?_; intro w5 hto5)
    rw [← htk.out] at hto5
    go_roundw
    case rel => exact ⟨k + 1, by omega, by go_num, hto5⟩
    case measure => simp [intOf]; omega
  obtain rfl : nH = k := by omega
  obtain ⟨wB, rfl⟩ : ∃ wo : World, wo = wr := ⟨_, rfl⟩
  rw [List.take_of_length_le (by rw [HlH.out]; exact Nat.le_refl _)] at hto
  clear hH4 hHlt
  have hOlt := hO1.lt
  have hOs := hO1
  obtain ⟨_, _, _, hO4⟩ := hO1
  go_wp2
  go_loopw [7] (fun i wr => ∃ j : Nat, j ≤ nO ∧ i = .int .i64 j ∧ S2 wA wr (nH + j) hs os j) (fun i _ => nO - (intOf i).toNat)
  case atStart => exact ⟨0, Nat.zero_le _, rfl, hto, by simp, by simp⟩
  case round =>
  clear hto
  obtain ⟨j, hj, rfl, hto, hond, hodis⟩ := hrel
  by_cases hjl : j < nO
  · obtain ⟨g, off, ha, hc⟩ := hO4 (by omega)
    have hgl : g < wA.heap.size := hOlt _ ha (by omega)
    have hrow := (hto.below.cell (p := ⟨g, off + j, none⟩) hgl).trans (hc j hjl)
    have hrm := hmO j
    subst ha
    have hbel : Below w.heap.size w wr := hbA.trans (hto.below.mono hbA.size)
    obtain ⟨nf, f, hmap, hmiss⟩ := hto.miss (os.getD j ByteArray.empty)
    have hnext : Hid (∀ w', os.getD j ByteArray.empty ∉ hs → os.getD j ByteArray.empty ∉ os.take j → SideIs wA w' (nH + j + 1) hs (os.take j ++ [os.getD j ByteArray.empty]) → S2 wA w' (nH + (j + 1)) hs os (j + 1)) := fun w' q1 q2 q3 => S2.next (by rw [HlO.out]; exact hjl) hond hodis q1 q2 q3
    generalize os.getD j ByteArray.empty = r at hrow hrm hmiss hnext
    clear hO4 hc hOlt hOs hHs hmO hmH hond hodis
    cases h1 : f r with
    | some v =>
      have hi1 : (f r).getD 0 = v := by rw [h1]; rfl
      have hi2 : (f r).isSome = true := by rw [h1]; rfl
      clear h1 hmiss
      go_wp2_with (at_lookup; refine wpList_look' _ rfl _ _ rfl wA.heap.size nf f r v true rfl rfl hmap hrm hi1 hi2 ?_)
      go_ret
      exact ⟨rfl, hbel⟩
    | none =>
      have hi1 : (f r).getD 0 = 0 := by rw [h1]; rfl
      have hi2 : (f r).isSome = false := by rw [h1]; rfl
      have hms : Hid (r ∉ hs ∧ r ∉ os.take j) := hmiss hi2
      clear h1 hmiss
      go_wp2_with (first
        | (at_lookup; refine wpList_look' _ rfl _ _ rfl wA.heap.size nf f r 0 false rfl rfl hmap hrm hi1 hi2 ?_)
        | (at_mapUpdate; refine wpList_side2 rfl _ _ _ rfl wA.heap.size r rfl rfl rfl rfl hto hms.out.1 hrm (by omega) ?_; intro w5 hto5))
      have hto6 := hnext.out w5 hms.out.1 hms.out.2 hto5
      go_roundw
      case rel => exact ⟨j + 1, by omega, by go_num, hto6⟩
      case measure => simp [intOf]; omega
  obtain rfl : nO = j := by omega
  obtain ⟨wC, rfl⟩ : ∃ wo : World, wo = wr := ⟨_, rfl⟩
  rw [List.take_of_length_le (by rw [HlO.out]; exact Nat.le_refl _)] at hto hond hodis
  have hHC := hHs.below hto.below hHs.lt
  have hOC := hOs.below hto.below hOs.lt
  have HOnd : Hid (os.Nodup) := hond
  have HD : Hid (∀ s ∈ os, s ∉ hs) := hodis
  have hbC : Below w.heap.size w wC := hbA.trans (hto.below.mono hbA.size)
  clear hHs hOs hOlt hO4 hond hodis hmO hmH hbA
  obtain ⟨nf, f, _, hmap, hf1, hf2, hf3, _, _⟩ := hto
  have HF : Hid ((∀ s ∈ hs, f s = some 1) ∧ (∀ s ∈ os, f s = some 2)) := ⟨hf1, hf2⟩
  clear hf1 hf2 hf3
  generalize wA.heap.size = bs at *
  go_wp2_with fail
  refine (clone11 aH nH capH hs wC hHC (by omega)).mono ?_
  rintro e wD ⟨aH', capH', rfl, cl1⟩
  have hOD := hOC.below cl1.below hOC.lt
  clear hHC hOC
  go_wp2_with fail
  refine (clone11 aO nO capO os wD hOD (by omega)).mono ?_
  rintro e wE ⟨aO', capO', rfl, cl2⟩
  have hHE := (cl1.arg.below cl2.below cl1.arg.lt)
  clear hOD
  go_wp2_with fail
  refine (accounts12 aH' nH capH' hs wE hHE (by omega)).mono ?_
  rintro e wG ⟨aR, capR, rfl, acc1⟩
  have hOG := cl2.arg.below acc1.below cl2.arg.lt
  clear hHE
  go_wp2_with fail
  refine (newRegister20 aR nH capR wG).mono ?_
  rintro e wH ⟨rfl, hwH⟩
  have bGH : Below wG.heap.size wG wH := by rw [hwH]; exact (Below.refl _ _).alloc (Nat.le_refl _) _
  have hOH := hOG.below bGH hOG.lt
  have HW : Hid (wH = wG.alloc (.cells #[.string ByteArray.empty, .slice aR nH capR] 66)) := hwH
  clear hwH hOG
  go_wp2_with fail
  refine (accounts12 aO' nO capO' os wH hOH (by omega)).mono ?_
  rintro e wI ⟨aP, capP, rfl, acc2⟩
  clear hOH
  obtain ⟨gR, rfl⟩ := acc1.addr
  obtain ⟨gP, rfl⟩ := acc2.addr
  have sH : wH.heap.size = wG.heap.size + 1 := by rw [HW.out]; simp
  have e1 := hbC.size
  have e2 := cl1.below.size
  have e3 := cl2.below.size
  have e4 := acc1.below.size
  have e5 := acc2.below.size
  have hgR := owns_block acc1.owns (b := gR) rfl
  have hgP := owns_block acc2.owns (b := gP) rfl
  have hgR2 : gR < wG.heap.size := by obtain ⟨_, cur, hc⟩ := hgR; exact lt_of_block hc
  have bGI : Below wG.heap.size wG wI := bGH.trans (acc2.below.mono (by omega))
  have bEI : Below wE.heap.size wE wI := acc1.below.trans (bGI.mono (by omega))
  have bCI : Below wC.heap.size wC wI := (cl1.below.trans (cl2.below.mono (by omega))).trans (bEI.mono (by omega))
  have hregI : RegAt wI wG.heap.size (some ⟨gR, 0, none⟩) nH capR := by
    unfold RegAt
    rw [acc2.below.block wG.heap.size (by omega), HW.out]
    exact heap_alloc_new wG _
  have hRI : wI.ownsRow wE.heap.size 42 5 (.slice (some ⟨gR, 0, none⟩) hs.length capR) hs.length (accRow hs) := owns_ext acc1.owns (Ext.of_below bGI fun _ => False) (fun _ _ e => e)
  have hmapI := hmap.below bCI hmap.lt
  have hbI : Below w.heap.size w wI := hbC.trans (bCI.mono (by omega))
  have c21 := join21 wG.heap.size wE.heap.size wH.heap.size gR nH capR hs gP nO capP os wI HlH HlO hregI hRI acc2.owns (by have := hgP.1; omega) (by omega) hI.out HOnd.out HD.out cl1.arg.2.2.1 cl2.arg.2.2.1 (by omega) (by omega)
  have hge : Hid (w.heap.size ≤ wG.heap.size ∧ w.heap.size ≤ gP ∧ w.heap.size ≤ gR) := ⟨by omega, by have := hgP.1; omega, by have := hgR.1; omega⟩
  have hnS : Hid (¬ (bs = wG.heap.size ∨ bs = gP ∨ ∃ x, (some ⟨gR, 0, none⟩ : Option Addr) = some x ∧ x.block = bs)) := by
    rintro (e | e | ⟨x, hx, hb⟩)
    · exact hmapI.ne_cells hregI e
    · obtain ⟨_, cur, hc⟩ := hgP
      exact hmapI.ne_cells hc e
    · cases hx
      obtain ⟨_, cur, hc⟩ := owns_block hRI (b := gR) rfl
      exact hmapI.ne_cells hc hb.symm
  clear hmap cl1 cl2 acc1 acc2 bGH bGI bEI bCI hregI hRI hgR hgP e1 e2 e3 e4 e5 sH hgR2 hbC
  go_wp2_with fail
  refine c21.mono ?_
  rintro e wJ ⟨rfl, ms, R, aR', capR', hJ⟩
  clear c21
  have hmapJ := hmapI.ext hJ.ext hnS.out
  have hbJ : Below w.heap.size w wJ := Ext.below hbI hbI.size hJ.ext (by
    rintro i (e | e | ⟨x, hx, hb⟩)
    · rw [e]; exact hge.out.1
    · rw [e]; exact hge.out.2.1
    · cases hx; rw [← hb]; exact hge.out.2.2)
  have HR : Hid (R.length = nH + nO) := by have h := hJ.lenR; rw [HlH.out, HlO.out] at h; exact h
  have HM : Hid (ms.length = nO) := hJ.perm.length_eq.trans HlO.out
  have hsdR : Sided f 0 R := fun s hs' => by
    rcases (hJ.memR s).1 hs' with h | h
    · exact ⟨1, HF.out.1 s h, fun h => absurd rfl h⟩
    · exact ⟨2, HF.out.2 s h, fun h => absurd rfl h⟩
  have hsdM : Sided f 2 ms := fun s hs' => ⟨2, HF.out.2 s (hJ.perm.mem_iff.1 hs'), fun _ => rfl⟩
  have c23 := registerAccounts23 wG.heap.size aR' R.length capR' wJ hJ.reg
  have c22 := sortedOver22 aR' R.length capR' R bs nf f 0 wJ hJ.racc hmapJ hJ.incR hsdR (by rw [HR.out]; omega) (Or.inl rfl)
  rw [HR.out] at c23 c22
  rw [show ((nH + nO : Nat) : Int) = (nH : Int) + (nO : Int) from by omega] at c22
  have haccM := accArg_of_owns hJ.opened (fun s hs' => by
    have := hJ.racc.2.1 s ((hJ.memR s).2 (Or.inr (hJ.perm.mem_iff.1 hs')))
    exact this)
  have c22b := fun (wK : World) (hb : Below wJ.heap.size wJ wK) => sortedOver22 (some ⟨gP, 0, none⟩) ms.length capP ms bs nf f 2 wK (haccM.below hb haccM.lt) (hmapJ.below hb hmapJ.lt) hJ.incM hsdM (by rw [HM.out]; omega) (Or.inr rfl)
  rw [HM.out] at c22b
  clear hJ hmapJ hmapI hbI hsdR hsdM haccM
  go_wp2_with fail
  refine c23.mono ?_
  rintro e w5 ⟨rfl, hw5⟩
  obtain rfl := hw5.symm
  clear hw5 c23
  go_wp2_with fail
  refine c22.mono ?_
  rintro e wK ⟨rfl, hbK⟩
  clear c22
  have c22 := c22b wK hbK
  clear c22b
  go_wp2_with fail
  refine c22.mono ?_
  rintro e wL ⟨rfl, hbL⟩
  have hbF : Below w.heap.size w wL := (hbJ.trans (hbK.mono hbJ.size)).trans (hbL.mono (Nat.le_trans hbJ.size hbK.size))
  clear c22 hbK hbL hbJ
  go_wp2
  go_ret
  exact ⟨rfl, hbF⟩
end Go.Proofs.Qxb6603349a
