/-
  4: FnSkipSpaceWalkVisitsNonSpaceBytes: the walk of the whole law.
-/
import Derived.Test.Qxb6603518aLeast
namespace Go.Proofs.Qxb6603518a
open Go.RowKit
set_option linter.unusedVariables false

theorem Try.info3 : (Try.prog.info? 3).map (fun i => (i.zero, i.size, i.bytes)) = some (some (.int .i64 0), 1, 8) := by kernel_rfl

/-- The row of places: the first m cells are the places, the rest free. -/
def IdxTo (w wr : World) (g N m : Nat) (xs : List Nat) : Prop :=
  ∃ cs, wr.ownsRow w.heap.size 3 1 (.slice (some ⟨g, 0, none⟩) N N) N cs ∧ (∀ j, j < m → cs[j]? = some (.int .i64 (xs.getD j 0 : Nat))) ∧ w.heap.size ≤ g ∧ Below w.heap.size w wr

theorem IdxTo.stored {w wr : World} {g N m : Nat} {xs : List Nat} (h : IdxTo w wr g N m xs) (hm : m < N) (k : Nat) (hk : xs.getD m 0 = k) :
    IdxTo w (wr.setCell ⟨g, m, none⟩ (.int .i64 k)) g N (m + 1) xs := by
  obtain ⟨cs, ho, hx, hg, hb⟩ := h
  have hl : cs.length = N := by have := ho.1; simpa using this
  refine ⟨cs.set m (.int .i64 k), (ho.stored m _).1, fun j hj => ?_, hg, hb.setCell hg _⟩
  rw [List.getElem?_set]
  by_cases hjk : m = j
  · subst hjk; simp [hl, hm, ← hk]
  · rw [if_neg hjk]; exact hx j (by omega)

theorem IdxTo.cell {w wr : World} {g N m : Nat} {xs : List Nat} (h : IdxTo w wr g N m xs) {k : Nat} (hk : k < N) :
    (∃ v, wr.cell? ⟨g, k, none⟩ = some v) ∧ wr.frozen? ⟨g, k, none⟩ = false := by
  obtain ⟨cs, ho, hx, hg, hb⟩ := h
  have hl : cs.length = N := by have := ho.1; simpa using this
  refine ⟨⟨cs[k]'(by omega), ?_⟩, ho.frozenAt k⟩
  rw [ho.cellAt k (by simpa using hk)]
  simp

theorem IdxTo.at {w wr : World} {g N m : Nat} {xs : List Nat} (h : IdxTo w wr g N m xs) {k : Nat} (hk : k < m) (hkN : k < N) :
    wr.cell? ⟨g, k, none⟩ = some (.int .i64 (xs.getD k 0 : Nat)) := by
  obtain ⟨cs, ho, hx, hg, hb⟩ := h
  rw [ho.cellAt k (by simpa using hkN)]
  exact hx k hk

theorem drop_cons {xs ys : List Nat} {m k : Nat} (h : xs.drop m = k :: ys) : m < xs.length ∧ xs.getD m 0 = k ∧ xs.drop (m + 1) = ys := by
  have hm : m < xs.length := by
    have := congrArg List.length h
    simp at this
    omega
  rw [List.drop_eq_getElem_cons hm] at h
  simp only [List.cons.injEq] at h
  exact ⟨hm, by rw [List.getD_eq_getElem?_getD, List.getElem?_eq_getElem hm]; simpa using h.1, h.2⟩

set_option maxHeartbeats 4000000 in
theorem visit4 (a : Option Addr) (len cap : Nat) (zs : List Int) (i : Int) (w : World) (h : BArg w a len zs) (hi0 : -9223372036854775808 ≤ i) (hi1 : i ≤ 9223372036854775807) :
    Calls Try.prog 4 #[.slice a len cap, .int .i64 i] w (TrueB w) := by
  have hm : len ≤ 9223372036854775807 := by have := h.2.1; unfold maxLen at this; omega
  have c5 := bytes9 a len cap i w h.2.1
  by_cases hl : 1048576 < len
  · clear h
    go_enter Try.func4, Try.ntmps4
    go_wp2_with fail
    refine c5.mono ?_
    rintro e w' ⟨⟨b, rfl⟩, rfl⟩
    clear c5
    cases b
    all_goals
      go_wp2
      go_ret
      exact ⟨rfl, Below.refl _ _⟩
  by_cases hneg : i < 0
  · clear h
    go_enter Try.func4, Try.ntmps4
    go_wp2_with fail
    refine c5.mono ?_
    rintro e w' ⟨⟨b, rfl⟩, rfl⟩
    clear c5
    cases b
    all_goals
      go_wp2
      go_ret
      exact ⟨rfl, Below.refl _ _⟩
  obtain ⟨n, rfl⟩ : ∃ n : Nat, i = n := ⟨i.toNat, by omega⟩
  have hL : Hid (zs.length = len) := h.1
  have hz := h.2.2.1
  have hlt0 := h.lt
  have c6 := clone6 a len cap zs w h (by omega)
  clear h
  go_enter Try.func4, Try.ntmps4
  go_wp2_with fail
  refine c5.mono ?_
  rintro e w' ⟨⟨b, rfl⟩, hw⟩
  obtain rfl := hw.symm
  clear c5 hw
  cases b
  · go_wp2
    go_ret
    exact ⟨rfl, Below.refl _ _⟩
  go_wp2_with fail
  refine c6.mono ?_
  rintro e w1 ⟨a', cap', rfl, hcl⟩
  clear c6 hlt0
  have hba : Hid (BArg w1 a' len zs) := hcl.arg
  have hbe : Hid (Below w.heap.size w w1) := hcl.below
  have hZ : Hid (∀ z ∈ zs, 0 ≤ z ∧ z ≤ 255) := hz
  clear hcl hz
  go_wp2_with fail
  refine (skip7 a' len cap' zs n w1 hba.out (by omega) (by omega)).mono ?_
  rintro e w' ⟨rfl, hw⟩
  obtain rfl := hw.symm
  clear hw
  by_cases hge : len ≤ n
  · have hG : skip zs n = n := skip_end (by rw [hL.out]; omega)
    rw [hG]
    clear hG
    go_wp2
    go_ret
    exact ⟨rfl, hbe.out⟩
  obtain ⟨G, hG⟩ : ∃ G, G = skip zs n := ⟨_, rfl⟩
  have hf := skip_facts zs _ n rfl (by rw [hL.out]; omega)
  rw [← hG] at hf ⊢
  have HF : Hid (nsp zs G = nsp zs n ∧ n ≤ G ∧ G ≤ zs.length ∧ (G < zs.length → spB (zs.getD G 0) = false)) := hf
  have hGl : G ≤ len := by have := hf.2.2.1; rw [hL.out] at this; exact this
  clear hG hf
  have hN : Hid ((nsp zs n).length ≤ len) := by
    have := nsp_len zs _ n rfl
    rw [hL.out] at this
    exact (show _ ≤ _ by omega)
  have hgb : a' ≠ none → ∀ x, a' = some x → x.block < w1.heap.size := fun _ x hx => hba.out.lt x hx (by omega)
  obtain ⟨b, off, rfl, hc⟩ := hba.out.2.2.2 (by omega)
  have hbl : b < w1.heap.size := hgb (fun h => (by cases h)) _ rfl
  clear hgb
  have HC : Hid (∀ k, k < len → w1.cell? ⟨b, off + k, none⟩ = some (.int .u8 (zs.getD k 0))) := hc
  have HR : Hid (∀ k, k < len → 0 ≤ zs.getD k 0 ∧ zs.getD k 0 ≤ 255) := fun k hk => hZ.out _ (by rw [List.getD_eq_getElem?_getD, List.getElem?_eq_getElem (by rw [hL.out]; exact hk)]; simp)
  clear hc hZ
  go_wp2_with fail
  -- the count
  go_loopw [6, 7] (fun nn kk wr => ∃ k m : Nat, n ≤ k ∧ k ≤ len ∧ m ≤ len ∧ nn = .int .i64 m ∧ kk = .int .i64 k ∧ Hid (m + (nsp zs k).length = (nsp zs n).length) ∧ wr = w1) (fun _ kk _ => len - (intOf kk).toNat)
  case atStart => exact ⟨n, 0, Nat.le_refl _, by omega, Nat.zero_le _, rfl, rfl, (show _ = _ from Nat.zero_add _), rfl⟩
  case round =>
    obtain ⟨k, m, hk0, hk1, hm0, rfl, rfl, hM, hw⟩ := hrel
    obtain rfl := hw.symm
    clear hw
    by_cases hkl : k < len
    · have hcell := HC.out k hkl
      have hcr := HR.out k hkl
      have hkz : k < zs.length := by rw [hL.out]; omega
      have hn1 : spB (zs.getD k 0) = true → Hid (m + (nsp zs (k + 1)).length = (nsp zs n).length) := fun hs => (by have := hM.out; rw [nsp_sp hkz hs] at this; exact this)
      have hn2 : spB (zs.getD k 0) = false → Hid (m + 1 + (nsp zs (k + 1)).length = (nsp zs n).length) ∧ m + 1 ≤ len := fun hs => (by
        have := hM.out; rw [nsp_at hkz hs] at this; simp at this
        have h2 := hN.out
        exact ⟨(show _ = _ by omega), by omega⟩)
      obtain ⟨c, hcc⟩ : ∃ c, c = zs.getD k 0 := ⟨_, rfl⟩
      rw [← hcc] at hcell hn1 hn2 hcr
      clear hkz hcc hM
      have c8 := isSpace8 c w1 hcr.1 hcr.2
      have N1 : Hid (spB c = true → Hid (m + (nsp zs (k + 1)).length = (nsp zs n).length)) := hn1
      have N2 : Hid (spB c = false → Hid (m + 1 + (nsp zs (k + 1)).length = (nsp zs n).length) ∧ m + 1 ≤ len) := hn2
      clear hn1 hn2
      go_wp2_with fail
      refine c8.mono ?_
      rintro e w' ⟨rfl, hw⟩
      obtain rfl := hw.symm
      clear hw c8
      cases hs : spB c with
      | true =>
        have hnx := N1.out hs
        clear N1 N2
        go_wp2
        go_roundw
        case rel => exact ⟨k + 1, m, by omega, by omega, hm0, rfl, by go_num, hnx, trivial⟩
        case measure => simp [intOf] <;> omega
      | false =>
        obtain ⟨hnx, hm1⟩ := N2.out hs
        clear N1 N2
        go_wp2
        go_roundw
        case rel => exact ⟨k + 1, m + 1, by omega, by omega, hm1, by go_num, by go_num, hnx, trivial⟩
        case measure => simp [intOf] <;> omega
    · have hk : len = k := by omega
      subst hk
      have hmN : Hid (m = (nsp zs n).length) := by
        have := hM.out
        rw [nsp_end (by rw [hL.out]; omega)] at this
        exact (show _ = _ by simpa using this)
      clear hM
      obtain ⟨i3, hi, hz0, hz1, hz2⟩ := info_parts Try.info3
      go_wp2_with (at_make; refine wpList_make_full _ rfl _ _ 27 rfl w1.heap.size 3 i3 _ 1 Try.underlying27 hi hz0 hz1 .i64 .i64 _ _ m rfl rfl rfl rfl (by rw [hz2]; omega) (by unfold maxLen; omega) (Nat.le_refl _) ?_; intro w2 hown hgrow)
      have hix : Hid (IdxTo w1 w2 w1.heap.size m 0 (nsp zs n)) := ⟨_, hown, fun j hj => absurd hj (Nat.not_lt_zero _), Nat.le_refl _, (Below.refl _ _).grown hgrow (Nat.le_refl _) (fun k hk => by cases hk)⟩
      obtain ⟨g, hg⟩ : ∃ g, g = w1.heap.size := ⟨_, rfl⟩
      rw [← hg] at hix ⊢
      clear hown hgrow hi hz0 hz1 hz2 hg
      -- the places
      go_loopw [9, 10] (fun qq kk wr => ∃ k q : Nat, n ≤ k ∧ k ≤ len ∧ q ≤ m ∧ qq = .int .i64 q ∧ kk = .int .i64 k ∧ Hid ((nsp zs n).drop q = nsp zs k) ∧ Hid (IdxTo w1 wr g m q (nsp zs n))) (fun _ kk _ => len - (intOf kk).toNat)
      case atStart => exact ⟨n, 0, Nat.le_refl _, by omega, Nat.zero_le _, rfl, rfl, (show _ = _ from rfl), hix⟩
      case round =>
        clear hix
        obtain ⟨k, q, hk0, hk1, hq0, rfl, rfl, hD, hix⟩ := hrel
        obtain ⟨wB, rfl⟩ : ∃ wo : World, wo = wr := ⟨wr, rfl⟩
        by_cases hkl : k < len
        · have hbw : Below w1.heap.size w1 wB := by obtain ⟨_, _, _, _, h⟩ := hix.out; exact h
          have hcell := (hbw.cell (p := ⟨b, off + k, none⟩) hbl).trans (HC.out k hkl)
          have hcr := HR.out k hkl
          have hkz : k < zs.length := by rw [hL.out]; omega
          have hn1 : spB (zs.getD k 0) = true → Hid ((nsp zs n).drop q = nsp zs (k + 1)) := fun hs => (by have := hD.out; rw [nsp_sp hkz hs] at this; exact this)
          have hn2 : spB (zs.getD k 0) = false → Hid ((nsp zs n).drop (q + 1) = nsp zs (k + 1)) ∧ q < m ∧ (nsp zs n).getD q 0 = k := fun hs => (by
            have := hD.out; rw [nsp_at hkz hs] at this
            have h2 := drop_cons this
            rw [← hmN.out] at h2
            exact ⟨h2.2.2, h2.1, h2.2.1⟩)
          obtain ⟨c, hcc⟩ : ∃ c, c = zs.getD k 0 := ⟨_, rfl⟩
          rw [← hcc] at hcell hn1 hn2 hcr
          clear hkz hcc hD hbw
          have c8 := isSpace8 c wB hcr.1 hcr.2
          have N1 : Hid (spB c = true → Hid ((nsp zs n).drop q = nsp zs (k + 1))) := hn1
          have N2 : Hid (spB c = false → Hid ((nsp zs n).drop (q + 1) = nsp zs (k + 1)) ∧ q < m ∧ (nsp zs n).getD q 0 = k) := hn2
          clear hn1 hn2
          go_wp2_with fail
          refine c8.mono ?_
          rintro e w' ⟨rfl, hw⟩
          obtain rfl := hw.symm
          clear hw c8
          cases hs : spB c with
          | true =>
            have hnx := N1.out hs
            clear N1 N2
            go_wp2
            go_roundw
            case rel => exact ⟨k + 1, q, by omega, by omega, hq0, rfl, by go_num, hnx, hix⟩
            case measure => simp [intOf] <;> omega
          | false =>
            obtain ⟨hnx, hqm, hgq⟩ := N2.out hs
            obtain ⟨⟨v, hcv⟩, hfr⟩ := hix.out.cell hqm
            have hix2 : Hid (IdxTo w1 _ g m (q + 1) (nsp zs n)) := hix.out.stored hqm k hgq
            clear N1 N2 hgq
            go_wp2
            go_roundw
            case rel => exact ⟨k + 1, q + 1, by omega, by omega, hqm, by go_num, by go_num, hnx, hix2⟩
            case measure => simp [intOf] <;> omega
        · have hk : len = k := by omega
          subst hk
          have hqm : m = q := by
            have := hD.out
            rw [nsp_end (i := len) (by rw [hL.out]; omega)] at this
            have h2 := congrArg List.length this
            rw [List.length_drop, ← hmN.out] at h2
            simp only [List.length_nil] at h2
            omega
          subst hqm
          clear hD
          go_wp2_with fail
          -- the tokenizer's walk
          go_loopw [5, 11] (fun pp ss wr => ∃ p s : Nat, p ≤ len ∧ s ≤ m ∧ pp = .int .i64 p ∧ ss = .int .i64 s ∧ Hid ((nsp zs n).drop s = nsp zs p) ∧ Hid (p < len → spB (zs.getD p 0) = false) ∧ wr = wB) (fun pp _ _ => len - (intOf pp).toNat)
          case atStart => exact ⟨G, 0, hGl, Nat.zero_le _, rfl, rfl, HF.out.1.symm, (fun hlt => HF.out.2.2.2 (by rw [hL.out]; exact hlt)), rfl⟩
          case round =>
            obtain ⟨p, s, hp0, hs0, rfl, rfl, hD, hsp, hw⟩ := hrel
            obtain rfl := hw.symm
            clear hw
            by_cases hpl : p < len
            · have hpz : p < zs.length := by rw [hL.out]; omega
              have hd1 := hD.out
              rw [nsp_at hpz (hsp.out hpl)] at hd1
              obtain ⟨hsm, hsv, hd2⟩ := drop_cons hd1
              rw [← hmN.out] at hsm
              have hcell := hix.out.at hsm hsm
              rw [hsv] at hcell
              have hbw : Below w1.heap.size w1 wB := by obtain ⟨_, _, _, _, h⟩ := hix.out; exact h
              have hba2 : BArg wB (some ⟨b, off, none⟩) len zs := hba.out.below hbw (fun x hx _ => by cases hx; exact hbl)
              have c7 := skip7 (some ⟨b, off, none⟩) len cap' zs (p + 1) wB hba2 (by omega) (by omega)
              obtain ⟨f1, f2, f3, f4⟩ := skip_facts zs _ (p + 1) rfl (by rw [hL.out]; omega)
              obtain ⟨q, hq⟩ : ∃ q, q = skip zs (p + 1) := ⟨_, rfl⟩
              rw [← hq] at f1 f2 f3 f4 c7
              have hnx : Hid ((nsp zs n).drop (s + 1) = nsp zs q) := hd2.trans f1.symm
              have hsx : Hid (q < len → spB (zs.getD q 0) = false) := fun hlt => f4 (by rw [hL.out]; exact hlt)
              have hql : q ≤ len := by rw [hL.out] at f3; exact f3
              clear hpz hd1 hsv hd2 hbw hba2 f1 f3 f4 hq hsp hD
              have e7 : ((p + 1 : Nat) : Int) = (p : Int) + 1 := by omega
              rw [e7] at c7
              clear e7
              go_wp2_with fail
              refine c7.mono ?_
              rintro e w' ⟨rfl, hw⟩
              obtain rfl := hw.symm
              clear hw c7
              go_wp2
              go_roundw
              case rel => exact ⟨q, s + 1, hql, hsm, rfl, by go_num, hnx, hsx, trivial⟩
              case measure => simp [intOf] <;> omega
            · have hp : len = p := by omega
              subst hp
              have hsm : m = s := by
                have := hD.out
                rw [nsp_end (i := len) (by rw [hL.out]; omega)] at this
                have h2 := congrArg List.length this
                rw [List.length_drop, ← hmN.out] at h2
                simp only [List.length_nil] at h2
                omega
              subst hsm
              clear hD hsp
              go_wp2
              go_ret
              obtain ⟨_, _, _, _, hbw⟩ := hix.out
              exact ⟨rfl, hbe.out.trans (hbw.mono hbe.out.size)⟩
end Go.Proofs.Qxb6603518a
