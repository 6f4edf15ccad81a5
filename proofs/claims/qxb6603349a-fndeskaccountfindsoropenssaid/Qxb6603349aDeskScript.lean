/-
  6: FnDeskAccountFindsOrOpens, walked whole.
-/
import Derived.Test.Qxb6603349aDeskParts
namespace Go.Proofs.Qxb6603349a
open Go.RowKit Go.Maps
set_option linter.unusedVariables false

set_option maxHeartbeats 4000000 in
set_option maxRecDepth 100000 in
theorem deskScript6 (aH : Option Addr) (nH capH : Nat) (hs : List ByteArray) (aO : Option Addr) (nO capO : Nat) (os : List ByteArray) (aC : Option Addr) (nC capC : Nat) (cs : List ByteArray) (w : World) (hH : StrArg w aH nH hs) (hO : StrArg w aO nO os) (hC : StrArg w aC nC cs) :
    Calls Try.prog 6 #[.slice aH nH capH, .slice aO nO capO, .slice aC nC capC] w fun e w' => e = .returned (.bool true) ∧ Below w.heap.size w w' := by
  have c24 := bytes24 aH nH capH hs aO nO capO os aC nC capC cs w hH hO hC
  have c8a := bytes8 aH nH capH hs w hH
  have c8b := bytes8 aO nO capO os w hO
  have c8c := bytes8 aC nC capC cs w hC
  have c9 := inc9 aH nH capH hs w hH
  have hmm : ∀ (w : World) (n : Int), (Instr.makeMap 23 (some (.int .i64 n))).run Try.prog w = .ok (.map (some w.heap.size)) (w.alloc (.map #[] 0)) := fun w n => by kernel_rfl
  have hneq := neqSame
  have hlH := hH.1
  have hlO := hO.1
  have HlH : Hid (hs.length = nH) := hlH
  have HlO : Hid (os.length = nO) := hlO
  have hmO := hO.mem
  have hmH := hH.mem
  clear hlH hlO
  go_enter Try.func6, Try.ntmps6
  go_wp2_with fail
  refine c24.mono ?_
  rintro e w' ⟨⟨b, rfl⟩, hw⟩
  obtain rfl := hw.symm
  clear c24 hw
  cases b with
  | false =>
    clear c8a c8b c8c c9
    go_wp2
    go_ret
    exact ⟨rfl, Below.refl _ _⟩
  | true =>
  by_cases hn1 : 65536 < nH
  · clear c8a c8b c8c c9
    go_wp2
    go_ret
    exact ⟨rfl, Below.refl _ _⟩
  by_cases hn2 : 65536 < nO
  · clear c8a c8b c8c c9
    go_wp2
    go_ret
    exact ⟨rfl, Below.refl _ _⟩
  by_cases hn3 : 65536 < nC
  · clear c8a c8b c8c c9
    go_wp2
    go_ret
    exact ⟨rfl, Below.refl _ _⟩
  go_wp2_with fail
  refine c8a.mono ?_
  rintro e w' ⟨⟨t1, rfl, ht10, ht11⟩, hw⟩
  obtain rfl := hw.symm
  clear c8a hw
  go_wp2_with fail
  refine c8b.mono ?_
  rintro e w' ⟨⟨t2, rfl, ht20, ht21⟩, hw⟩
  obtain rfl := hw.symm
  clear c8b hw
  go_wp2_with fail
  refine c8c.mono ?_
  rintro e w' ⟨⟨t3, rfl, ht30, ht31⟩, hw⟩
  obtain rfl := hw.symm
  clear c8c hw
  by_cases htb : 1048576 < t1 + t2 + t3
  · clear c9
    go_wp2
    go_ret
    exact ⟨rfl, Below.refl _ _⟩
  go_wp2_with fail
  refine c9.mono ?_
  rintro e wA ⟨⟨b, rfl, hinc⟩, hsame⟩
  clear c9
  cases b with
  | false =>
    clear hinc hH hO hC
    go_wp2
    go_ret
    exact ⟨rfl, hsame.below _⟩
  | true =>
  have hI : Hid (Inc hs) := hinc rfl
  have hH1 := hH.same hsame
  have hO1 := hO.same hsame
  have hC1 := hC.same hsame
  have hbA : Below w.heap.size w wA := hsame.below _
  clear hinc hH hO hC hsame
  have hHlt := hH1.lt
  have hHs := hH1
  obtain ⟨_, _, _, hH4⟩ := hH1
  go_wp2
  go_loopw [8] (fun i wr => ∃ k : Nat, k ≤ nH ∧ i = .int .i64 k ∧ CTo wA wr k hs) (fun i _ => nH - (intOf i).toNat)
  case atStart => exact ⟨0, Nat.zero_le _, rfl, CTo.start wA hs⟩
  case round =>
  obtain ⟨k, hk, rfl, hto⟩ := hrel
  by_cases hkl : k < nH
  · obtain ⟨g, off, ha, hc⟩ := hH4 (by omega)
    have hgl : g < wA.heap.size := hHlt _ ha (by omega)
    have hrow := (hto.2.1.cell (p := ⟨g, off + k, none⟩) hgl).trans (hc k hkl)
    have hrm := hmH k
    subst ha
    obtain ⟨r, hr⟩ : ∃ r, r = hs.getD k ByteArray.empty := ⟨_, rfl⟩
    have HR : Hid (r = hs.getD k ByteArray.empty) := hr
    rw [← hr] at hrow hrm
    clear hr hH4 hc hHlt hHs hO1 hC1 hmH hmO
    go_wp2_with (at_mapUpdate; refine wpList_putC rfl _ _ _ rfl wA.heap.size r rfl HR.out rfl rfl rfl hto (by rw [HlH.out]; exact hkl) (not_mem_take hI.out.nodup (by rw [HlH.out]; exact hkl)) hrm (by omega) ?_; intro w5 hto5)
    go_roundw
    case rel => exact ⟨k + 1, by omega, by go_num, hto5⟩
    case measure => simp [intOf]; omega
  obtain rfl : nH = k := by omega
  obtain ⟨wB, rfl⟩ : ∃ wo : World, wo = wr := ⟨_, rfl⟩
  have hb1 : MapIs wB wA.heap.size nH (idx hs) := by have := hto.1; rwa [List.take_of_length_le (by rw [HlH.out]; exact Nat.le_refl _)] at this
  have hAB := hto.2.1
  have hABs := hto.2.2
  have hHB := hHs.below hAB hHs.lt
  have hOB := hO1.below hAB hO1.lt
  have hCB := hC1.below hAB hC1.lt
  clear hto hH4 hHlt hHs hO1 hC1 hmH
  have hOlt := hOB.lt
  have hOs := hOB
  obtain ⟨_, _, _, hO4⟩ := hOB
  go_wp2
  go_loopw [10] (fun i wr => ∃ j : Nat, j ≤ nO ∧ i = .int .i64 j ∧ OTo wB wr j os hs) (fun i _ => nO - (intOf i).toNat)
  case atStart => exact ⟨0, Nat.zero_le _, rfl, CTo.start wB os, by simp, by simp⟩
  case round =>
  obtain ⟨j, hj, rfl, hto⟩ := hrel
  by_cases hjl : j < nO
  · obtain ⟨g, off, ha, hc⟩ := hO4 (by omega)
    have hgl : g < wB.heap.size := hOlt _ ha (by omega)
    have hrow := (hto.1.2.1.cell (p := ⟨g, off + j, none⟩) hgl).trans (hc j hjl)
    have hrm := hmO j
    subst ha
    have hm1 := hb1.below hto.1.2.1 hABs
    have hm2 := hto.1.1
    have hbel : Below w.heap.size w wr := (hbA.trans (hAB.mono hbA.size)).trans (hto.1.2.1.mono (Nat.le_trans hbA.size hAB.size))
    obtain ⟨r, hr⟩ : ∃ r, r = os.getD j ByteArray.empty := ⟨_, rfl⟩
    have HR : Hid (r = os.getD j ByteArray.empty) := hr
    rw [← hr] at hrow hrm
    clear hr hO4 hc hOlt hOs hHB hCB hmO hb1
    cases h1 : idx hs r with
    | some v =>
      have hi1 : (idx hs r).getD 0 = v := by rw [h1]; rfl
      have hi2 : (idx hs r).isSome = true := by rw [h1]; rfl
      clear h1
      go_wp2_with (at_lookup; refine wpList_look' _ rfl _ _ rfl wA.heap.size nH (idx hs) r v true rfl rfl hm1 hrm hi1 hi2 ?_)
      go_ret
      exact ⟨rfl, hbel⟩
    | none =>
      have hi1 : (idx hs r).getD 0 = 0 := by rw [h1]; rfl
      have hi2 : (idx hs r).isSome = false := by rw [h1]; rfl
      have hnh : Hid (r ∉ hs) := idx_none_mem h1
      clear h1
      cases h2 : idx (os.take j) r with
      | some v =>
        have hj1 : (idx (os.take j) r).getD 0 = v := by rw [h2]; rfl
        have hj2 : (idx (os.take j) r).isSome = true := by rw [h2]; rfl
        clear h2
        go_wp2_with (first
          | (at_lookup; refine wpList_look' _ rfl _ _ rfl wA.heap.size nH (idx hs) r 0 false rfl rfl hm1 hrm hi1 hi2 ?_)
          | (at_lookup; refine wpList_look' _ rfl _ _ rfl wB.heap.size j (idx (os.take j)) r v true rfl rfl hm2 hrm hj1 hj2 ?_))
        go_ret
        exact ⟨rfl, hbel⟩
      | none =>
        have hj1 : (idx (os.take j) r).getD 0 = 0 := by rw [h2]; rfl
        have hj2 : (idx (os.take j) r).isSome = false := by rw [h2]; rfl
        have hno : Hid (r ∉ os.take j) := idx_none_mem h2
        clear h2
        go_wp2_with (first
          | (at_lookup; refine wpList_look' _ rfl _ _ rfl wA.heap.size nH (idx hs) r 0 false rfl rfl hm1 hrm hi1 hi2 ?_)
          | (at_lookup; refine wpList_look' _ rfl _ _ rfl wB.heap.size j (idx (os.take j)) r 0 false rfl rfl hm2 hrm hj1 hj2 ?_)
          | (at_mapUpdate; refine wpList_putC rfl _ _ _ rfl wB.heap.size r rfl HR.out rfl rfl rfl hto.1 (by rw [HlO.out]; exact hjl) (HR.out ▸ hno.out) hrm (by omega) ?_; intro w5 hto5))
        have hto6 := hto.next (by rw [HlO.out]; exact hjl) (HR.out ▸ hnh.out) (HR.out ▸ hno.out) hto5
        go_roundw
        case rel => exact ⟨j + 1, by omega, by go_num, hto6⟩
        case measure => simp [intOf]; omega
  obtain rfl : nO = j := by omega
  obtain ⟨wC, rfl⟩ : ∃ wo : World, wo = wr := ⟨_, rfl⟩
  obtain ⟨⟨hb2, hBC, hBCs⟩, hOnd, hdis⟩ := hto
  rw [List.take_of_length_le (by rw [HlO.out]; exact Nat.le_refl _)] at hb2 hOnd hdis
  have hHC := hHB.below hBC hHB.lt
  have hOC := hOs.below hBC hOs.lt
  have hCC := hCB.below hBC hCB.lt
  clear hHB hOs hCB hOlt hO4
  have HOnd : Hid (os.Nodup) := hOnd
  have HD : Hid (∀ s ∈ os, s ∉ hs) := hdis
  clear hOnd hdis
  go_wp2_with fail
  refine (clone11 aH nH capH hs wC hHC (by omega)).mono ?_
  rintro e wD ⟨aH', capH', rfl, cl1⟩
  have hOD := hOC.below cl1.below hOC.lt
  have hCD := hCC.below cl1.below hCC.lt
  clear hHC hOC hCC
  go_wp2_with fail
  refine (clone11 aO nO capO os wD hOD (by omega)).mono ?_
  rintro e wE ⟨aO', capO', rfl, cl2⟩
  have hCE := hCD.below cl2.below hCD.lt
  clear hOD hCD
  go_wp2_with fail
  refine (clone11 aC nC capC cs wE hCE (by omega)).mono ?_
  rintro e wF ⟨aC', capC', rfl, cl3⟩
  have hHF := (cl1.arg.below cl2.below cl1.arg.lt)
  have hHF := hHF.below cl3.below hHF.lt
  have hOF := cl2.arg.below cl3.below cl2.arg.lt
  clear hCE
  go_wp2_with fail
  refine (accounts12 aH' nH capH' hs wF hHF (by omega)).mono ?_
  rintro e wG ⟨aR, capR, rfl, acc1⟩
  have hOG := hOF.below acc1.below hOF.lt
  clear hHF hOF
  go_wp2_with fail
  refine (newRegister20 aR nH capR wG).mono ?_
  rintro e wH ⟨rfl, hwH⟩
  have bGH : Below wG.heap.size wG wH := by rw [hwH]; exact (Below.refl _ _).alloc (Nat.le_refl _) _
  have hOH := hOG.below bGH hOG.lt
  have sH : wH.heap.size = wG.heap.size + 1 := by rw [hwH]; simp
  have HW : Hid (wH = wG.alloc (.cells #[.string ByteArray.empty, .slice aR nH capR] 66)) := hwH
  clear hwH hOG
  have hOlt := hOH.lt
  have hOs := hOH
  obtain ⟨_, _, _, hO4⟩ := hOH
  have HS : Hid (wH.heap.size = wG.heap.size + 1) := sH
  clear sH
  go_wp2
  go_loopw [17] (fun i wr => ∃ k : Nat, k ≤ nO ∧ i = .int .i64 k ∧ CTo wH wr k os) (fun i _ => nO - (intOf i).toNat)
  case atStart => exact ⟨0, Nat.zero_le _, rfl, CTo.start wH os⟩
  case round =>
  obtain ⟨k, hk, rfl, hto⟩ := hrel
  by_cases hkl : k < nO
  · obtain ⟨g, off, ha, hc⟩ := hO4 (by omega)
    have hgl : g < wH.heap.size := hOlt _ ha (by omega)
    have hrow := (hto.2.1.cell (p := ⟨g, off + k, none⟩) hgl).trans (hc k hkl)
    have hrm := hmO k
    subst ha
    obtain ⟨r, hr⟩ : ∃ r, r = os.getD k ByteArray.empty := ⟨_, rfl⟩
    have HR : Hid (r = os.getD k ByteArray.empty) := hr
    rw [← hr] at hrow hrm
    clear hr hO4 hc hOlt hOs hmO cl1 cl2 cl3 acc1 hb1 hb2 hBC hAB hbA bGH
    go_wp2_with (at_mapUpdate; refine wpList_putC rfl _ _ _ rfl wH.heap.size r rfl HR.out rfl rfl rfl hto (by rw [HlO.out]; exact hkl) (not_mem_take HOnd.out (by rw [HlO.out]; exact hkl)) hrm (by omega) ?_; intro w5 hto5)
    go_roundw
    case rel => exact ⟨k + 1, by omega, by go_num, hto5⟩
    case measure => simp [intOf]; omega
  obtain rfl : nO = k := by omega
  obtain ⟨wI, rfl⟩ : ∃ wo : World, wo = wr := ⟨_, rfl⟩
  have hOI := hOs.below hto.2.1 hOs.lt
  clear hOs hOlt hO4
  go_wp2_with fail
  refine (accounts12 aO' nO capO' os wI hOI (by omega)).mono ?_
  rintro e wJ ⟨aD, capD, rfl, acc2⟩
  have hOJ := hOI.below acc2.below hOI.lt
  clear hOI
  go_wp2_with fail
  refine (newDesk25 wG.heap.size aD nO capD wH.heap.size wJ).mono ?_
  rintro e wK ⟨rfl, hwK⟩
  have bJK : Below wJ.heap.size wJ wK := by rw [hwK]; exact (Below.refl _ _).alloc (Nat.le_refl _) _
  have hOK := hOJ.below bJK hOJ.lt
  have HK : Hid (wK = wJ.alloc (.cells #[.pointer (some ⟨wG.heap.size, 0, none⟩), .slice aD nO capD, .map (some wH.heap.size)] 69)) := hwK
  have HKs : Hid (wK.heap.size = wJ.heap.size + 1) := by rw [hwK]; simp [Hid]
  clear hwK hOJ
  obtain ⟨i0, hi, hz0, hz1, hz2⟩ := info_parts Try.info9
  have hOlt := hOK.lt
  obtain ⟨_, _, _, hO4⟩ := hOK
  go_wp2_with (at_make; refine wpList_make_own _ rfl _ _ 22 rfl wK.heap.size 9 i0 _ 1 Try.underlying22 hi hz0 hz1 .i64 .i64 _ (nO + nC) rfl rfl (by omega) (by rw [hz2]; omega) (by unfold maxLen; omega) (Nat.le_refl _) ?_; intro wL hownL hgrowL)
  go_loopw [19, 20] (fun v i wr => ∃ (j : Nat) (aW : Option Addr) (capW : Nat), j ≤ nO ∧ i = .int .i64 j ∧ v = .slice aW j capW ∧ WTo wK wr aW capW j os) (fun _ i _ => nO - (intOf i).toNat)
  case atStart => exact ⟨0, _, _, Nat.zero_le _, rfl, rfl, hownL, (Below.refl _ _).grown hgrowL (Nat.le_refl _) (fun k hk => by cases hk)⟩
  case round =>
  obtain ⟨j, aW, capW, hj, rfl, rfl, hwt⟩ := hrel
  clear hownL hgrowL hi hz0 hz1 hz2
  by_cases hjl : j < nO
  · obtain ⟨g, off, ha, hc⟩ := hO4 (by omega)
    have hgl : g < wK.heap.size := hOlt _ ha (by omega)
    have hrow := (hwt.2.cell (p := ⟨g, off + j, none⟩) hgl).trans (hc j hjl)
    subst ha
    obtain ⟨r, hr⟩ : ∃ r, r = os.getD j ByteArray.empty := ⟨_, rfl⟩
    have HR : Hid (r = os.getD j ByteArray.empty) := hr
    rw [← hr] at hrow
    clear hr hO4 hc hOlt hmO cl1 cl2 cl3 acc1 acc2 hb1 hb2 hBC hAB hbA bGH bJK hto
    go_wp2_with (at_builtin; refine wpList_appW rfl _ _ rfl r ⟨wr.heap.size, 0, none⟩ rfl HR.out rfl (cell_new1 _ _) (hwt.alloc _) (by rw [HlO.out]; exact hjl) (by omega) ?_; intro aW' capW' w5 hwt5)
    go_roundw
    case rel => exact ⟨j + 1, aW', capW', by omega, by go_num, rfl, hwt5⟩
    case measure => simp [intOf]; omega
  obtain rfl : nO = j := by omega
  obtain ⟨wM, rfl⟩ : ∃ wo : World, wo = wr := ⟨_, rfl⟩
  rw [HW.out] at hto
  rw [HK.out, HS.out] at hwt
  have hL := L5.start HlH.out HlO.out hbA hAB hABs hb1 hBC hBCs hb2 cl1 cl2 cl3 acc1 hto acc2 hwt hI.out
  rw [← HS.out] at hL
  have hinv : Inv5 w wM wA.heap.size wB.heap.size wJ.heap.size wG.heap.size wH.heap.size wI.heap.size (wJ.heap.size + 1) wF.heap.size aR capR hs nO 0 nO aW capW aH' aC' nC cs := ⟨os, aD, capD, hL, HlO.out, by omega, HOnd.out⟩
  clear hO4 hOlt cl1 cl2 cl3 acc1 acc2 hb1 hb2 hBC hAB hbA bGH bJK hto hwt hmO hL
  generalize wA.heap.size = b1 at *
  generalize wB.heap.size = b2 at *
  generalize wJ.heap.size = bd at *
  generalize wG.heap.size = br at *
  generalize wH.heap.size = bi at *
  generalize wI.heap.size = base at *
  generalize wF.heap.size = c0 at *
  go_wp2
  go_loopw [19, 21] (fun v i wr => ∃ (c n : Nat) (aW : Option Addr) (capW : Nat), c ≤ nC ∧ i = .int .i64 c ∧ v = .slice aW n capW ∧ Inv5 w wr b1 b2 bd br bi base (bd + 1) c0 aR capR hs nO c n aW capW aH' aC' nC cs) (fun _ i _ => nC - (intOf i).toNat)
  case atStart => exact ⟨0, nO, _, _, Nat.zero_le _, rfl, rfl, hinv⟩
  case round =>
  clear hinv
  obtain ⟨c, n, aW2, capW2, hc, rfl, rfl, ds, aD2, capD2, hL, hdl, hnc, hnd⟩ := hrel
  by_cases hcl : c < nC
  · have hsm := hL.calls.mem c
    obtain ⟨_, _, _, hC4⟩ := hL.calls
    obtain ⟨gc, oc, hac, hcc⟩ := hC4 (by omega)
    have hrow := hcc c hcl
    generalize cs.getD c ByteArray.empty = s at hrow hsm
    subst hac
    have c26 := account26 bd br bi base aR capR hs aD2 capD2 ds s wr hL.desk (by rw [HlH.out]; omega) (by omega) hsm
    clear hC4 hcc
    go_wp2_with fail
    refine c26.mono ?_
    rintro e w5 ⟨p, rfl, hans⟩
    clear c26 hrow
    cases h1 : idx hs s with
    | some v =>
      obtain ⟨k, rfl, hk, _⟩ := idx_lt h1
      unfold Answered at hans
      rw [h1] at hans
      obtain ⟨hp, hb5⟩ := hans
      obtain ⟨g, off, rfl⟩ := accArg_addr hL.desk.racc (by omega)
      rw [Int.toNat_natCast, sharesAt_some] at hp
      subst hp
      have hL5 := hL.kept hb5
      clear hL hb5
      have hm1 := hL5.heldAt
      have hreg := hL5.desk.reg
      rw [HlH.out] at hm1 hreg
      obtain ⟨q0, q1, q2, q3, q4⟩ : AccAt w5 g (off + k * 5) (hs.getD k ByteArray.empty) := by
        obtain ⟨g', off', he, hh⟩ := hL5.desk.racc.2.2 (by omega)
        cases he
        exact hh k hk
      have hi1 : (idx hs s).getD 0 = (k : Int) := by rw [h1]; rfl
      have hi2 : (idx hs s).isSome = true := by rw [h1]; rfl
      have hkn : k < nH := by rw [← HlH.out]; exact hk
      clear h1 hk q0
      go_wp2_with (first
        | (at_lookup; refine wpList_look' _ rfl _ _ rfl b1 nH (idx hs) s k true rfl rfl hm1 hsm hi1 hi2 ?_)
        | (go_at_call 27; refine (registerSharesAt27 br g off nH capR k _ hreg hkn (by omega)).mono ?_; rintro e w6 ⟨rfl, rfl⟩)
        | (go_at_call 29; refine (noShares29 _).mono ?_; rintro e w7 ⟨rfl, hw7⟩))
      have hend := hL5.alloc shObj
      go_roundw
      case rel => exact ⟨c + 1, n, aW2, capW2, by omega, by go_num, rfl, ds, aD2, capD2, hend, hdl, by omega, hnd⟩
      case measure => simp [intOf]; omega
    | none =>
      have hi1 : (idx hs s).getD 0 = 0 := by rw [h1]; rfl
      have hi2 : (idx hs s).isSome = false := by rw [h1]; rfl
      cases h2 : idx ds s with
      | some v =>
        obtain ⟨k, rfl, hk, _⟩ := idx_lt h2
        unfold Answered at hans
        rw [h1] at hans
        simp only at hans
        rw [h2] at hans
        obtain ⟨hp, hb5⟩ := hans
        obtain ⟨g, off, rfl⟩ := accArg_addr hL.desk.dacc (by omega)
        rw [Int.toNat_natCast, sharesAt_some] at hp
        subst hp
        have hL5 := hL.kept hb5
        clear hL hb5
        have hm1 := hL5.heldAt
        have hm2 := hL5.openAt
        have hdesk := hL5.desk.desk
        rw [HlH.out] at hm1
        rw [hdl] at hm2 hdesk
        obtain ⟨q0, q1, q2, q3, q4⟩ : AccAt w5 g (off + k * 5) (ds.getD k ByteArray.empty) := by
          obtain ⟨g', off', he, hh⟩ := hL5.desk.dacc.2.2 (by omega)
          cases he
          exact hh k hk
        have hj1 : (idx ds s).getD 0 = (k : Int) := by rw [h2]; rfl
        have hj2 : (idx ds s).isSome = true := by rw [h2]; rfl
        have hkn : k < n := by omega
        clear h1 h2 hk q0
        go_wp2_with (first
          | (at_lookup; refine wpList_look' _ rfl _ _ rfl b1 nH (idx hs) s 0 false rfl rfl hm1 hsm hi1 hi2 ?_)
          | (at_lookup; refine wpList_look' _ rfl _ _ rfl b2 n (idx ds) s k true rfl rfl hm2 hsm hj1 hj2 ?_)
          | (go_at_call 28; refine (openedSharesAt28 bd br g off n capD2 bi k _ hdesk hkn (by omega)).mono ?_; rintro e w6 ⟨rfl, rfl⟩)
          | (go_at_call 29; refine (noShares29 _).mono ?_; rintro e w7 ⟨rfl, hw7⟩))
        have hend := hL5.alloc shObj
        go_roundw
        case rel => exact ⟨c + 1, n, aW2, capW2, by omega, by go_num, rfl, ds, _, capD2, hend, hdl, by omega, hnd⟩
        case measure => simp [intOf]; omega
      | none =>
        unfold Answered at hans
        rw [h1] at hans
        simp only at hans
        rw [h2] at hans
        obtain ⟨aD3, capD3, hd5, hp, he5⟩ := hans
        obtain ⟨g, off, rfl⟩ := accArg_addr hd5.dacc (by simp)
        rw [sharesAt_some] at hp
        subst hp
        have hL5 := hL.opened hd5 he5
        clear hL hd5 he5
        have hm1 := hL5.heldAt
        have hm2 := hL5.openAt
        rw [HlH.out] at hm1
        have hnew : s ∉ ds := idx_none_mem h2
        have hj1 : (idx ds s).getD 0 = 0 := by rw [h2]; rfl
        have hj2 : (idx ds s).isSome = false := by rw [h2]; rfl
        clear h1 h2
        have hfin : Hid (∀ w9 aW' capW', L5 w w9 b1 b2 bd br bi base (bd + 1) c0 aR capR hs (some ⟨g, off, none⟩) capD3 (ds ++ [s]) (ds ++ [s]) aW' capW' (ds ++ [s]) aH' (some ⟨gc, oc, none⟩) nC cs → DeskAt w9 bd br (some ⟨g, off, none⟩) (n + 1) capD3 bi ∧ AccAt w9 g (off + n * 5) s ∧ Inv5 w (w9.alloc shObj) b1 b2 bd br bi base (bd + 1) c0 aR capR hs nO (c + 1) (n + 1) aW' capW' aH' (some ⟨gc, oc, none⟩) nC cs) := by
          intro w9 aW' capW' hL9
          have hlen : (ds ++ [s]).length = n + 1 := by simp [hdl]
          refine ⟨?_, ?_, ds ++ [s], some ⟨g, off, none⟩, capD3, hL9.alloc _, hlen, by omega, ?_⟩
          · have := hL9.desk.desk
            rwa [hlen] at this
          · obtain ⟨g', off', he, hh⟩ := hL9.desk.dacc.2.2 (by omega)
            cases he
            have := hh n (by omega)
            rwa [show (ds ++ [s]).getD n ByteArray.empty = s from by rw [← hdl]; simp] at this
          · rw [List.nodup_append]
            refine ⟨hnd, by simp, fun x hx y hy e => ?_⟩
            simp only [List.mem_singleton] at hy
            subst hy
            subst e
            exact hnew hx
        go_wp2_with (first
          | (at_lookup; refine wpList_look' _ rfl _ _ rfl b1 nH (idx hs) s 0 false rfl rfl hm1 hsm hi1 hi2 ?_)
          | (at_lookup; refine wpList_look' _ rfl _ _ rfl b2 ds.length (idx ds) s 0 false rfl rfl hm2 hsm hj1 hj2 ?_)
          | (at_mapUpdate; refine wpList_putOpen rfl _ _ _ rfl s _ rfl rfl rfl (by rw [hdl]) hL5 hnew hsm (by omega) ?_; intro w6 hL6)
          | (at_builtin; refine wpList_appWant rfl _ _ rfl s ⟨w6.heap.size, 0, none⟩ _ rfl (by omega) rfl (cell_new1 _ _) (hL6.alloc _) (by omega) ?_; intro aW3 capW3 w8 hL8; obtain ⟨k0, ⟨k1, k2, k3, k4, k5⟩, k6⟩ := hfin.out w8 aW3 capW3 hL8)
          | (go_at_call 28; refine (openedSharesAt28 bd br g off (n + 1) capD3 bi n _ k0 (by omega) (by omega)).mono ?_; rintro e w9 ⟨rfl, hw9⟩; obtain rfl := hw9.symm; clear hw9)
          | (go_at_call 29; refine (noShares29 _).mono ?_; rintro e w7 ⟨rfl, hw7⟩))
        go_roundw
        case rel => exact ⟨c + 1, n + 1, aW3, capW3, by omega, by go_num, rfl, k6⟩
        case measure => simp [intOf]; omega
  · obtain rfl : nC = c := by omega
    have c23 := registerAccounts23 br aR hs.length capR wr hL.desk.reg
    have c16 := namesAre16 aR aH' hs.length capR capH' hs wr hL.desk.racc hL.held (by rw [HlH.out]; omega)
    rw [HlH.out] at c23 c16
    go_wp2_with fail
    refine c23.mono ?_
    rintro e w5 ⟨rfl, hw5⟩
    obtain rfl := hw5.symm
    clear hw5 c23
    go_wp2_with fail
    refine c16.mono ?_
    rintro e w6 ⟨rfl, hb6⟩
    clear c16
    have hL6 := hL.kept hb6
    clear hL hb6
    have hsW := strArg_of_owns hL6.want (by unfold maxLen; omega) hL6.desk.sizes
    have c30 := deskOpened30 bd br aD2 ds.length capD2 bi w6 hL6.desk.desk
    have c16 := namesAre16 aD2 aW2 ds.length capD2 capW2 ds w6 hL6.desk.dacc hsW (by omega)
    rw [hdl] at c30 c16
    go_wp2_with fail
    refine c30.mono ?_
    rintro e w5 ⟨rfl, hw5⟩
    obtain rfl := hw5.symm
    clear hw5 c30
    go_wp2_with fail
    refine c16.mono ?_
    rintro e w7 ⟨rfl, hb7⟩
    clear c16 hsW
    have hL7 := hL6.kept hb7
    clear hL6 hb7
    have hsW := strArg_of_owns hL7.want (by unfold maxLen; omega) hL7.desk.sizes
    have c31 := deskIndex31 bd br aD2 ds.length capD2 bi w7 hL7.desk.desk
    have c10 := exact10 bi ds.length (idx ds) aW2 ds.length capW2 ds w7 hL7.desk.index hsW (by omega)
    rw [hdl] at c10
    have hex : Hid (Exact n (idx ds) n ds) := by have := exact_idx hnd; rw [hdl] at this; exact this
    have hbel := hL7.below
    clear hL7 hsW
    go_wp2_with fail
    refine c31.mono ?_
    rintro e w5 ⟨rfl, hw5⟩
    obtain rfl := hw5.symm
    clear hw5 c31
    go_wp2_with fail
    refine c10.mono ?_
    rintro e w8 ⟨⟨b, rfl, hb⟩, hw8⟩
    obtain rfl := hw8.symm
    obtain rfl : b = true := hb.2 hex.out
    clear c10 hw8 hb
    go_wp2
    go_ret
    exact ⟨rfl, hbel⟩
end Go.Proofs.Qxb6603349a
