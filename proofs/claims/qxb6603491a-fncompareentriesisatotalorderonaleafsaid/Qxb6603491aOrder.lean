/-
  4: FnCompareEntriesIsATotalOrderOnALeaf: the walk of the whole law.
-/
import Derived.Test.Qxb6603491aCmp
namespace Go.Proofs.Qxb6603491a
open Go.RowKit
set_option linter.unusedVariables false

/-- What the law answers: true, and nothing that was there is written. -/
def TrueB (w : World) (e : Ending) (w' : World) : Prop := e = .returned (.bool true) ∧ Below w.heap.size w w'

theorem EntOk.fine {es : List Ent} {len lt : Nat} {i : Int} (h : EntOk es len lt i) : ∃ n : Nat, i = n ∧ Fine es len lt n := by
  obtain ⟨n, rfl, h1, h2, h3⟩ := h
  exact ⟨n, rfl, h1, h2, h3⟩

set_option maxRecDepth 100000 in
set_option maxHeartbeats 8000000 in
theorem order4 (a t : Option Addr) (len cap lt ct : Nat) (es : List Ent) (zs : List Int) (i j k : Int) (w : World) (h : EArg w a len es) (ht : BArg w t lt zs) :
    Calls Try.prog 4 #[.slice a len cap, .slice t lt ct, .int .i64 i, .int .i64 j, .int .i64 k] w (TrueB w) := by
  have hm1 : len ≤ 9223372036854775807 := by have := h.2.1; unfold maxLen at this; omega
  have hm2 : lt ≤ 9223372036854775807 := by have := ht.2.1; unfold maxLen at this; omega
  have c16 := bytes16 a t len cap lt ct i j k w h.2.1 ht.2.1
  by_cases x1 : 65536 < len
  · clear h ht
    go_enter Try.func4, Try.ntmps4
    go_wp2_with fail
    refine c16.mono ?_
    rintro e w' ⟨⟨b, rfl⟩, rfl⟩
    clear c16
    cases b
    all_goals
      go_wp2
      go_ret
      exact ⟨rfl, Below.refl _ _⟩
  by_cases x2 : 1048576 < lt
  · clear h ht
    go_enter Try.func4, Try.ntmps4
    go_wp2_with fail
    refine c16.mono ?_
    rintro e w' ⟨⟨b, rfl⟩, rfl⟩
    clear c16
    cases b
    all_goals
      go_wp2
      go_ret
      exact ⟨rfl, Below.refl _ _⟩
  by_cases x3 : 1048576 < 24 * len + lt
  · clear h ht
    go_enter Try.func4, Try.ntmps4
    go_wp2_with fail
    refine c16.mono ?_
    rintro e w' ⟨⟨b, rfl⟩, rfl⟩
    clear c16
    cases b
    all_goals
      go_wp2
      go_ret
      exact ⟨rfl, Below.refl _ _⟩
  have HE : Hid (EArg w a len es) := h
  have HT : Hid (BArg w t lt zs) := ht
  have b1 : len ≤ 1048576 := by omega
  have b2 : lt ≤ 1048576 := by omega
  clear h ht
  go_enter Try.func4, Try.ntmps4
  go_wp2_with fail
  refine c16.mono ?_
  rintro e w' ⟨⟨b, rfl⟩, hw⟩
  obtain rfl := hw.symm
  clear c16 hw
  cases b
  · go_wp2
    go_ret
    exact ⟨rfl, Below.refl _ _⟩
  go_wp2_with fail
  refine (entryOK8 a t len cap lt ct es i w HE.out b1 b2).mono ?_
  rintro e w1 ⟨⟨b, rfl, hbi⟩, hd1⟩
  have D1 : Hid (Drew w w1) := hd1
  have BI : Hid (b = true → EntOk es len lt i) := hbi
  clear hd1 hbi
  cases b
  · go_wp2
    go_ret
    exact ⟨rfl, D1.out.below _⟩
  obtain ⟨ni, rfl, hfi⟩ := (BI.out rfl).fine
  have FI : Hid (Fine es len lt ni) := hfi
  clear BI hfi
  go_wp2_with fail
  refine (entryOK8 a t len cap lt ct es j w1 (HE.out.below (D1.out.below _) HE.out.lt) b1 b2).mono ?_
  rintro e w2 ⟨⟨b, rfl, hbi⟩, hd1⟩
  have D2 : Hid (Drew w w2) := D1.out.trans hd1
  have BI : Hid (b = true → EntOk es len lt j) := hbi
  clear hd1 hbi D1
  cases b
  · go_wp2
    go_ret
    exact ⟨rfl, D2.out.below _⟩
  obtain ⟨nj, rfl, hfj⟩ := (BI.out rfl).fine
  have FJ : Hid (Fine es len lt nj) := hfj
  clear BI hfj
  go_wp2_with fail
  refine (entryOK8 a t len cap lt ct es k w2 (HE.out.below (D2.out.below _) HE.out.lt) b1 b2).mono ?_
  rintro e w3 ⟨⟨b, rfl, hbi⟩, hd1⟩
  have D3 : Hid (Drew w w3) := D2.out.trans hd1
  have BI : Hid (b = true → EntOk es len lt k) := hbi
  clear hd1 hbi D2
  cases b
  · go_wp2
    go_ret
    exact ⟨rfl, D3.out.below _⟩
  obtain ⟨nk, rfl, hfk⟩ := (BI.out rfl).fine
  have FK : Hid (Fine es len lt nk) := hfk
  clear BI hfk
  -- the clones
  go_wp2_with fail
  have HE3 : Hid (EArg w3 a len es) := HE.out.below (D3.out.below _) HE.out.lt
  have HT3 : Hid (BArg w3 t lt zs) := HT.out.below (D3.out.below _) HT.out.lt
  have B3 : Hid (Below w.heap.size w w3) := D3.out.below _
  clear HE HT D3
  refine (clone9 a len cap es w3 HE3.out b1).mono ?_
  rintro e w4 ⟨a', cap', rfl, hcl⟩
  have CL : Hid (ClonedE w3 w4 a' len es) := hcl
  clear hcl
  have B4 : Hid (Below w.heap.size w w4) := B3.out.trans (CL.out.below.mono B3.out.size)
  have HT4 : Hid (BArg w4 t lt zs) := HT3.out.below CL.out.below HT3.out.lt
  have HE4 : Hid (EArg w4 a' len es) := CL.out.arg
  clear HE3 HT3 B3 CL
  go_wp2_with fail
  refine (clone10 t lt ct zs w4 HT4.out b2).mono ?_
  rintro e w5 ⟨t', ct', rfl, hcl⟩
  have CL : Hid (ClonedB w4 w5 t' lt ct' zs) := hcl
  clear hcl
  have B5 : Hid (Below w.heap.size w w5) := B4.out.trans (CL.out.below.mono B4.out.size)
  have HE5 : Hid (EArg w5 a' len es) := HE4.out.below CL.out.below HE4.out.lt
  clear HE4 HT4 B4
  go_wp2_with fail
  refine (leaf11 a' len cap' t' lt ct' es w5 HE5.out b1).mono ?_
  rintro e w6 ⟨nb, aL, capL, rfl, hlf⟩
  have LF : Hid (Leaf w5 w6 nb aL len capL t' lt ct' es) := hlf
  clear hlf
  have B6 : Hid (Below w.heap.size w w6) := B5.out.trans (LF.out.below.mono B5.out.size)
  have HE6 : Hid (EArg w6 a' len es) := HE5.out.below LF.out.below HE5.out.lt
  have LI6 : Hid (LeafIn w6 nb aL len capL t' lt ct' es zs) := ⟨LF.out.node, LF.out.arg, CL.out.arg.below LF.out.below CL.out.arg.lt, CL.out.shape, CL.out.room⟩
  clear HE5 B5 LF CL
  go_wp2_with fail
  have cc := compare12 nb aL len capL t' lt ct' es zs ni nj w6 LI6.out b1 b2 FI.out FJ.out
  obtain ⟨R1, hR1⟩ : ∃ R, R = cmpE es zs ni nj := ⟨_, rfl⟩
  rw [← hR1] at cc
  have HR1 : Hid (R1 = cmpE es zs ni nj) := hR1
  clear hR1
  refine cc.mono ?_
  rintro e w7 ⟨rfl, hb⟩
  have BB : Hid (Below w6.heap.size w6 w7) := hb
  clear hb cc
  have B7 : Hid (Below w.heap.size w w7) := B6.out.trans (BB.out.mono B6.out.size)
  have LI7 : Hid (LeafIn w7 nb aL len capL t' lt ct' es zs) := LI6.out.below BB.out
  have HE7 : Hid (EArg w7 a' len es) := HE6.out.below BB.out HE6.out.lt
  clear BB B6 LI6 HE6
  go_wp2_with fail
  have cc := compare12 nb aL len capL t' lt ct' es zs nj ni w7 LI7.out b1 b2 FJ.out FI.out
  obtain ⟨R2, hR2⟩ : ∃ R, R = cmpE es zs nj ni := ⟨_, rfl⟩
  rw [← hR2] at cc
  have HR2 : Hid (R2 = cmpE es zs nj ni) := hR2
  clear hR2
  refine cc.mono ?_
  rintro e w8 ⟨rfl, hb⟩
  have BB : Hid (Below w7.heap.size w7 w8) := hb
  clear hb cc
  have B8 : Hid (Below w.heap.size w w8) := B7.out.trans (BB.out.mono B7.out.size)
  have LI8 : Hid (LeafIn w8 nb aL len capL t' lt ct' es zs) := LI7.out.below BB.out
  have HE8 : Hid (EArg w8 a' len es) := HE7.out.below BB.out HE7.out.lt
  clear BB B7 LI7 HE7
  go_wp2_with fail
  have cc := compare12 nb aL len capL t' lt ct' es zs nj nk w8 LI8.out b1 b2 FJ.out FK.out
  obtain ⟨R3, hR3⟩ : ∃ R, R = cmpE es zs nj nk := ⟨_, rfl⟩
  rw [← hR3] at cc
  have HR3 : Hid (R3 = cmpE es zs nj nk) := hR3
  clear hR3
  refine cc.mono ?_
  rintro e w9 ⟨rfl, hb⟩
  have BB : Hid (Below w8.heap.size w8 w9) := hb
  clear hb cc
  have B9 : Hid (Below w.heap.size w w9) := B8.out.trans (BB.out.mono B8.out.size)
  have LI9 : Hid (LeafIn w9 nb aL len capL t' lt ct' es zs) := LI8.out.below BB.out
  have HE9 : Hid (EArg w9 a' len es) := HE8.out.below BB.out HE8.out.lt
  clear BB B8 LI8 HE8
  go_wp2_with fail
  have cc := compare12 nb aL len capL t' lt ct' es zs ni nk w9 LI9.out b1 b2 FI.out FK.out
  obtain ⟨R4, hR4⟩ : ∃ R, R = cmpE es zs ni nk := ⟨_, rfl⟩
  rw [← hR4] at cc
  have HR4 : Hid (R4 = cmpE es zs ni nk) := hR4
  clear hR4
  refine cc.mono ?_
  rintro e w10 ⟨rfl, hb⟩
  have BB : Hid (Below w9.heap.size w9 w10) := hb
  clear hb cc
  have B10 : Hid (Below w.heap.size w w10) := B9.out.trans (BB.out.mono B9.out.size)
  have LI10 : Hid (LeafIn w10 nb aL len capL t' lt ct' es zs) := LI9.out.below BB.out
  have HE10 : Hid (EArg w10 a' len es) := HE9.out.below BB.out HE9.out.lt
  clear BB B9 LI9 HE9
  go_wp2_with fail
  have cc := compare12 nb aL len capL t' lt ct' es zs ni ni w10 LI10.out b1 b2 FI.out FI.out
  obtain ⟨R5, hR5⟩ : ∃ R, R = cmpE es zs ni ni := ⟨_, rfl⟩
  rw [← hR5] at cc
  have HR5 : Hid (R5 = cmpE es zs ni ni) := hR5
  clear hR5
  refine cc.mono ?_
  rintro e w11 ⟨rfl, hb⟩
  have BB : Hid (Below w10.heap.size w10 w11) := hb
  clear hb cc
  have B11 : Hid (Below w.heap.size w w11) := B10.out.trans (BB.out.mono B10.out.size)
  have LI11 : Hid (LeafIn w11 nb aL len capL t' lt ct' es zs) := LI10.out.below BB.out
  have HE11 : Hid (EArg w11 a' len es) := HE10.out.below BB.out HE10.out.lt
  clear BB B10 LI10 HE10
  have u1 : Hid (R1 = -1 ∨ R1 = 0 ∨ R1 = 1) := by rw [HR1.out]; exact cmpK_unit _ _ _ _
  have u2 : Hid (R2 = -1 ∨ R2 = 0 ∨ R2 = 1) := by rw [HR2.out]; exact cmpK_unit _ _ _ _
  have u3 : Hid (R3 = -1 ∨ R3 = 0 ∨ R3 = 1) := by rw [HR3.out]; exact cmpK_unit _ _ _ _
  have u4 : Hid (R4 = -1 ∨ R4 = 0 ∨ R4 = 1) := by rw [HR4.out]; exact cmpK_unit _ _ _ _
  go_wp2_with fail
  refine (unit17 R1 w11 u1.out).mono ?_
  rintro e w' ⟨rfl, hw⟩
  obtain rfl := hw.symm
  clear hw
  go_wp2_with fail
  refine (unit17 R2 w11 u2.out).mono ?_
  rintro e w' ⟨rfl, hw⟩
  obtain rfl := hw.symm
  clear hw
  go_wp2_with fail
  refine (unit17 R3 w11 u3.out).mono ?_
  rintro e w' ⟨rfl, hw⟩
  obtain rfl := hw.symm
  clear hw
  go_wp2_with fail
  refine (unit17 R4 w11 u4.out).mono ?_
  rintro e w' ⟨rfl, hw⟩
  obtain rfl := hw.symm
  clear hw
  have h5 : R5 = 0 := by rw [HR5.out]; exact cmpK_self _ _
  subst h5
  have h21 : R2 = -R1 := by rw [HR2.out, HR1.out]; exact cmpK_neg _ _ _ _
  subst h21
  have htr : R1 ≤ 0 → R3 ≤ 0 → R4 ≤ 0 := by rw [HR1.out, HR3.out, HR4.out]; exact cmpK_trans _ _ _ _ _ _
  have hz : Hid (R1 = 0 ↔ (es.getD ni e0).h = (es.getD nj e0).h ∧ lexI (keyOf zs (es.getD ni e0)) (keyOf zs (es.getD nj e0)) = 0) := by rw [HR1.out]; exact cmpK_zero _ _ _ _
  clear HR1 HR2 HR3 HR4 HR5 u2 u3 u4 FK
  obtain ⟨b, off, ha, hc⟩ := HE11.out.2.2.2 (Nat.lt_of_le_of_lt (Nat.zero_le _) FI.out.isIn)
  subst ha
  have ci := (hc ni FI.out.isIn).h
  have cj := (hc nj FJ.out.isIn).h
  have il := FI.out.isIn
  have jl := FJ.out.isIn
  have dE : ∀ n, EArg (w11.drewN n) (some ⟨b, off, none⟩) len es := fun n => HE11.out.below (belowN (Below.refl w11.heap.size w11) n) HE11.out.lt
  have dL : ∀ n, LeafIn (w11.drewN n) nb aL len capL t' lt ct' es zs := fun n => LI11.out.below (belowN (Below.refl w11.heap.size w11) n)
  obtain ⟨u, hu⟩ : ∃ u, u = keyV t' ct' (es.getD ni e0) := ⟨_, rfl⟩
  obtain ⟨v, hv⟩ : ∃ v, v = keyV t' ct' (es.getD nj e0) := ⟨_, rfl⟩
  obtain ⟨L, hL⟩ : ∃ L, L = lexI (keyOf zs (es.getD ni e0)) (keyOf zs (es.getD nj e0)) := ⟨_, rfl⟩
  have KI : Hid (∀ n, Calls Try.prog 15 #[.slice (some ⟨b, off, none⟩) len cap', .slice t' lt ct', .int .i64 ni] (w11.drewN n) fun e w' => e = .returned u ∧ ∃ m, w' = (w11.drewN n).drewN m) :=
    fun n => by rw [hu]; exact key15 _ t' len cap' lt ct' es ni (w11.drewN n) (dE n) il b1 b2 LI11.out.room LI11.out.shape FI.out.le FI.out.inText
  have KJ : Hid (∀ n, Calls Try.prog 15 #[.slice (some ⟨b, off, none⟩) len cap', .slice t' lt ct', .int .i64 nj] (w11.drewN n) fun e w' => e = .returned v ∧ ∃ m, w' = (w11.drewN n).drewN m) :=
    fun n => by rw [hv]; exact key15 _ t' len cap' lt ct' es nj (w11.drewN n) (dE n) jl b1 b2 LI11.out.room LI11.out.shape FJ.out.le FJ.out.inText
  have KL : Hid (∀ n, Calls Try.prog 13 #[u, v] (w11.drewN n) fun e w' => e = .returned (.int .i64 L) ∧ ∃ m, w' = (w11.drewN n).drewN m) := fun n => by
    have ki := key_barg (dL n).text FI.out.le FI.out.inText ((dE n).entOk il).2.1.1 LI11.out.room
    have kj := key_barg (dL n).text FJ.out.le FJ.out.inText ((dE n).entOk jl).2.1.1 LI11.out.room
    rw [hu, hv, hL]
    exact lex13 _ _ _ _ _ _ _ _ (w11.drewN n) ki kj (by have := FI.out.inText; omega) (by have := FJ.out.inText; omega)
  rw [← hL] at hz
  obtain ⟨x, hx⟩ : ∃ x, x = (es.getD ni e0).h := ⟨_, rfl⟩
  obtain ⟨y, hy⟩ : ∃ y, y = (es.getD nj e0).h := ⟨_, rfl⟩
  rw [← hx] at ci hz
  rw [← hy] at cj hz
  clear hx hy hu hv hL dE dL hc HE11 LI11 FI FJ
  rcases u1.out with h1 | h1 | h1
  · have hnz : ¬ (x = y ∧ L = 0) := fun hh => by have := hz.out.2 hh; omega
    subst h1
    clear hz u1
    by_cases p3 : R3 ≤ 0
    · have p4 : R4 ≤ 0 := htr (by decide) p3
      clear htr
      by_cases exy : x = y
      · subst exy
        have lz : (L == 0) = false := by rw [beq_eq_false_iff_ne]; exact fun e => hnz ⟨rfl, e⟩
        clear hnz
        go_wp2
        refine wp_region_quiet_lit (by kernel_rfl) (by kernel_rfl) ?_
        repeat (go_big_quiet_step (fail))
        go_big_quiet_want
        go_big_quiet_op
        apply Exists.intro
        refine ⟨fun _ => ?_, ?_⟩
        · exact Calls.quiet_of (KI.out _)
        go_big_quiet_on
        repeat (go_big_quiet_step (fail))
        go_big_quiet_want
        go_big_quiet_op
        apply Exists.intro
        refine ⟨fun _ => ?_, ?_⟩
        · exact Calls.quiet_of (KJ.out _)
        go_big_quiet_on
        repeat (go_big_quiet_step (fail))
        go_big_quiet_want
        go_big_quiet_op
        apply Exists.intro
        refine ⟨fun _ => ?_, ?_⟩
        · exact Calls.quiet_of (KL.out _)
        go_big_quiet_on
        repeat (go_big_quiet_step (fail))
        refine wpQuiet_nil ?_
        intro _ hw'
        obtain ⟨nq, hw''⟩ := hw'
        subst hw''
        go_wp2
        go_ret
        exact ⟨rfl, belowN B11.out _⟩
      · clear hnz
        have dxy : (x == y) = false := by rw [beq_eq_false_iff_ne]; exact exy
        go_wp2
        refine wp_region_quiet_lit (by kernel_rfl) (by kernel_rfl) ?_
        repeat (go_big_quiet_step (fail))
        refine wpQuiet_nil ?_
        intro _ hw'
        obtain ⟨nq, hw''⟩ := hw'
        subst hw''
        go_wp2
        go_ret
        exact ⟨rfl, belowN B11.out _⟩
    · clear htr
      by_cases exy : x = y
      · subst exy
        have lz : (L == 0) = false := by rw [beq_eq_false_iff_ne]; exact fun e => hnz ⟨rfl, e⟩
        clear hnz
        go_wp2
        refine wp_region_quiet_lit (by kernel_rfl) (by kernel_rfl) ?_
        repeat (go_big_quiet_step (fail))
        go_big_quiet_want
        go_big_quiet_op
        apply Exists.intro
        refine ⟨fun _ => ?_, ?_⟩
        · exact Calls.quiet_of (KI.out _)
        go_big_quiet_on
        repeat (go_big_quiet_step (fail))
        go_big_quiet_want
        go_big_quiet_op
        apply Exists.intro
        refine ⟨fun _ => ?_, ?_⟩
        · exact Calls.quiet_of (KJ.out _)
        go_big_quiet_on
        repeat (go_big_quiet_step (fail))
        go_big_quiet_want
        go_big_quiet_op
        apply Exists.intro
        refine ⟨fun _ => ?_, ?_⟩
        · exact Calls.quiet_of (KL.out _)
        go_big_quiet_on
        repeat (go_big_quiet_step (fail))
        refine wpQuiet_nil ?_
        intro _ hw'
        obtain ⟨nq, hw''⟩ := hw'
        subst hw''
        go_wp2
        go_ret
        exact ⟨rfl, belowN B11.out _⟩
      · clear hnz
        have dxy : (x == y) = false := by rw [beq_eq_false_iff_ne]; exact exy
        go_wp2
        refine wp_region_quiet_lit (by kernel_rfl) (by kernel_rfl) ?_
        repeat (go_big_quiet_step (fail))
        refine wpQuiet_nil ?_
        intro _ hw'
        obtain ⟨nq, hw''⟩ := hw'
        subst hw''
        go_wp2
        go_ret
        exact ⟨rfl, belowN B11.out _⟩
  · obtain ⟨exy, lz⟩ := hz.out.1 h1
    subst h1 exy lz
    clear hz u1
    by_cases p3 : R3 ≤ 0
    · have p4 : R4 ≤ 0 := htr (by decide) p3
      clear htr
      go_wp2
      refine wp_region_quiet_lit (by kernel_rfl) (by kernel_rfl) ?_
      repeat (go_big_quiet_step (fail))
      go_big_quiet_want
      go_big_quiet_op
      apply Exists.intro
      refine ⟨fun _ => ?_, ?_⟩
      · exact Calls.quiet_of (KI.out _)
      go_big_quiet_on
      repeat (go_big_quiet_step (fail))
      go_big_quiet_want
      go_big_quiet_op
      apply Exists.intro
      refine ⟨fun _ => ?_, ?_⟩
      · exact Calls.quiet_of (KJ.out _)
      go_big_quiet_on
      repeat (go_big_quiet_step (fail))
      go_big_quiet_want
      go_big_quiet_op
      apply Exists.intro
      refine ⟨fun _ => ?_, ?_⟩
      · exact Calls.quiet_of (KL.out _)
      go_big_quiet_on
      repeat (go_big_quiet_step (fail))
      refine wpQuiet_nil ?_
      intro _ hw'
      obtain ⟨nq, hw''⟩ := hw'
      subst hw''
      go_wp2
      go_ret
      exact ⟨rfl, belowN B11.out _⟩
    · clear htr
      go_wp2
      refine wp_region_quiet_lit (by kernel_rfl) (by kernel_rfl) ?_
      repeat (go_big_quiet_step (fail))
      go_big_quiet_want
      go_big_quiet_op
      apply Exists.intro
      refine ⟨fun _ => ?_, ?_⟩
      · exact Calls.quiet_of (KI.out _)
      go_big_quiet_on
      repeat (go_big_quiet_step (fail))
      go_big_quiet_want
      go_big_quiet_op
      apply Exists.intro
      refine ⟨fun _ => ?_, ?_⟩
      · exact Calls.quiet_of (KJ.out _)
      go_big_quiet_on
      repeat (go_big_quiet_step (fail))
      go_big_quiet_want
      go_big_quiet_op
      apply Exists.intro
      refine ⟨fun _ => ?_, ?_⟩
      · exact Calls.quiet_of (KL.out _)
      go_big_quiet_on
      repeat (go_big_quiet_step (fail))
      refine wpQuiet_nil ?_
      intro _ hw'
      obtain ⟨nq, hw''⟩ := hw'
      subst hw''
      go_wp2
      go_ret
      exact ⟨rfl, belowN B11.out _⟩
  · have hnz : ¬ (x = y ∧ L = 0) := fun hh => by have := hz.out.2 hh; omega
    subst h1
    clear hz u1 htr
    by_cases exy : x = y
    · subst exy
      have lz : (L == 0) = false := by rw [beq_eq_false_iff_ne]; exact fun e => hnz ⟨rfl, e⟩
      clear hnz
      go_wp2
      refine wp_region_quiet_lit (by kernel_rfl) (by kernel_rfl) ?_
      repeat (go_big_quiet_step (fail))
      go_big_quiet_want
      go_big_quiet_op
      apply Exists.intro
      refine ⟨fun _ => ?_, ?_⟩
      · exact Calls.quiet_of (KI.out _)
      go_big_quiet_on
      repeat (go_big_quiet_step (fail))
      go_big_quiet_want
      go_big_quiet_op
      apply Exists.intro
      refine ⟨fun _ => ?_, ?_⟩
      · exact Calls.quiet_of (KJ.out _)
      go_big_quiet_on
      repeat (go_big_quiet_step (fail))
      go_big_quiet_want
      go_big_quiet_op
      apply Exists.intro
      refine ⟨fun _ => ?_, ?_⟩
      · exact Calls.quiet_of (KL.out _)
      go_big_quiet_on
      repeat (go_big_quiet_step (fail))
      refine wpQuiet_nil ?_
      intro _ hw'
      obtain ⟨nq, hw''⟩ := hw'
      subst hw''
      go_wp2
      go_ret
      exact ⟨rfl, belowN B11.out _⟩
    · clear hnz
      have dxy : (x == y) = false := by rw [beq_eq_false_iff_ne]; exact exy
      go_wp2
      refine wp_region_quiet_lit (by kernel_rfl) (by kernel_rfl) ?_
      repeat (go_big_quiet_step (fail))
      refine wpQuiet_nil ?_
      intro _ hw'
      obtain ⟨nq, hw''⟩ := hw'
      subst hw''
      go_wp2
      go_ret
      exact ⟨rfl, belowN B11.out _⟩
end Go.Proofs.Qxb6603491a
