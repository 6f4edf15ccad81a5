/-
  13: ceLex. 10: ceCloneB. 15: ceKey. 8: ceEntryOK.
-/
import Derived.Test.Qxb6603491aParts
namespace Go.Proofs.Qxb6603491a
open Go.RowKit
set_option linter.unusedVariables false

/-- Nothing but draws. -/
def Drew (w w' : World) : Prop := ∃ m, w' = w.drewN m
theorem Drew.refl (w : World) : Drew w w := ⟨0, rfl⟩
theorem drewN_drewN (w : World) (m n : Nat) : (w.drewN m).drewN n = w.drewN (m + n) := by simp [World.drewN, Nat.add_assoc]
theorem Drew.drewN {w w' : World} (h : Drew w w') (n : Nat) : Drew w (w'.drewN n) := by
  obtain ⟨m, rfl⟩ := h
  exact ⟨m + n, drewN_drewN w m n⟩
theorem Drew.trans {a b c : World} (h : Drew a b) (k : Drew b c) : Drew a c := by
  obtain ⟨m, rfl⟩ := k
  exact h.drewN m
theorem Drew.below {w w' : World} (h : Drew w w') (B : Nat) : Below B w w' := by
  obtain ⟨m, rfl⟩ := h
  exact ⟨rfl, rfl, rfl, Nat.le_refl _, fun k _ => rfl⟩
theorem Drew.cell {w w' : World} (h : Drew w w') (a : Addr) : w'.cell? a = w.cell? a := by
  obtain ⟨m, rfl⟩ := h
  rfl

theorem lexI_drop (zs ys : List Int) (q : Nat) (h1 : q < zs.length) (h2 : q < ys.length) : lexI (zs.drop q) (ys.drop q) = if zs.getD q 0 < ys.getD q 0 then -1 else if ys.getD q 0 < zs.getD q 0 then 1 else lexI (zs.drop (q + 1)) (ys.drop (q + 1)) := by
  rw [List.drop_eq_getElem_cons h1, List.drop_eq_getElem_cons h2]
  have g : ∀ (l : List Int) (k : Nat) (hk : k < l.length), l.getD k 0 = l[k] := fun l k hk => by rw [List.getD_eq_getElem?_getD, List.getElem?_eq_getElem hk]; rfl
  rw [g zs q h1, g ys q h2]
  rfl

theorem lexI_end (zs ys : List Int) (q : Nat) (h1 : q ≤ zs.length) (h2 : q ≤ ys.length) (h : q = zs.length ∨ q = ys.length) : lexI (zs.drop q) (ys.drop q) = if zs.length < ys.length then -1 else if ys.length < zs.length then 1 else 0 := by
  by_cases x : q = zs.length
  · subst x
    rw [List.drop_eq_nil_of_le (Nat.le_refl _)]
    by_cases y : zs.length < ys.length
    · rw [if_pos y, List.drop_eq_getElem_cons y]; rfl
    · rw [if_neg y, if_neg (by omega), List.drop_eq_nil_of_le (by omega)]; rfl
  · have y : q = ys.length := by omega
    subst y
    rw [if_neg (by omega), if_pos (by omega), List.drop_eq_nil_of_le (Nat.le_refl _), List.drop_eq_getElem_cons (by omega)]
    rfl

set_option maxHeartbeats 2000000 in
theorem lex13 (a c : Option Addr) (la ca lc cc : Nat) (zs ys : List Int) (w : World) (h1 : BArg w a la zs) (h2 : BArg w c lc ys) (b1 : la ≤ 1048576) (b2 : lc ≤ 1048576) :
    Calls Try.prog 13 #[.slice a la ca, .slice c lc cc] w fun e w' => e = .returned (.int .i64 (lexI zs ys)) ∧ Drew w w' := by
  have H1 : Hid (BArg w a la zs) := h1
  have H2 : Hid (BArg w c lc ys) := h2
  have L1 : Hid (zs.length = la) := h1.1
  have L2 : Hid (ys.length = lc) := h2.1
  obtain ⟨R, hR⟩ : ∃ R, R = lexI zs ys := ⟨_, rfl⟩
  rw [← hR]
  have HR : Hid (R = lexI zs ys) := hR
  clear h1 h2 hR
  go_enter Try.func13, Try.ntmps13
  go_wp2_with fail
  go_loopw [5] (fun i wr => ∃ q : Nat, q ≤ la ∧ q ≤ lc ∧ i = .int .i64 q ∧ Hid (R = lexI (zs.drop q) (ys.drop q)) ∧ Hid (Drew w wr)) (fun i _ => la - (intOf i).toNat)
  case atStart => exact ⟨0, Nat.zero_le _, Nat.zero_le _, rfl, HR, Drew.refl _⟩
  case round =>
    obtain ⟨q, q1, q2, rfl, hq, hd⟩ := hrel
    by_cases x1 : q < la
    · by_cases x2 : q < lc
      · obtain ⟨b, off, rfl, hc⟩ := H1.out.2.2.2 (by omega)
        obtain ⟨b', off', rfl, hc'⟩ := H2.out.2.2.2 (by omega)
        have cx : wr.cell? ⟨b, off + q, none⟩ = _ := (hd.out.cell _).trans (hc q x1)
        have cy : wr.cell? ⟨b', off' + q, none⟩ = _ := (hd.out.cell _).trans (hc' q x2)
        have hs := hq.out.trans (lexI_drop zs ys q (by rw [L1.out]; exact x1) (by rw [L2.out]; exact x2))
        generalize zs.getD q 0 = x at cx hs
        generalize ys.getD q 0 = y at cy hs
        clear hc hc' hq
        by_cases y1 : x < y
        · rw [if_pos y1] at hs
          subst hs
          go_wp2
          go_quiet (fail)
          go_wp2
          go_ret
          exact ⟨rfl, hd.out.drewN _⟩
        rw [if_neg y1] at hs
        by_cases y2 : y < x
        · rw [if_pos y2] at hs
          subst hs
          go_wp2
          go_quiet (fail)
          go_wp2
          go_quiet (fail)
          go_wp2
          go_ret
          exact ⟨rfl, (hd.out.drewN _).drewN _⟩
        rw [if_neg y2] at hs
        have hq : Hid (R = lexI (zs.drop (q + 1)) (ys.drop (q + 1))) := hs
        clear hs
        go_wp2
        go_quiet (fail)
        go_wp2
        go_quiet (fail)
        go_wp2
        go_roundw
        case rel => exact ⟨q + 1, by omega, by omega, by go_num, hq, hd.out.drewN _⟩
        case measure => simp [intOf]; omega
      · have hs := hq.out.trans (lexI_end zs ys q (by rw [L1.out]; omega) (by rw [L2.out]; omega) (Or.inr (by rw [L2.out]; omega)))
        rw [L1.out, L2.out] at hs
        rw [if_neg (by omega), if_pos (by omega)] at hs
        subst hs
        clear hq HR
        go_wp2
        go_ret
        exact ⟨rfl, hd.out⟩
    · have hs := hq.out.trans (lexI_end zs ys q (by rw [L1.out]; omega) (by rw [L2.out]; omega) (Or.inl (by rw [L1.out]; omega)))
      rw [L1.out, L2.out] at hs
      clear hq HR
      by_cases x2 : la < lc
      · rw [if_pos x2] at hs
        subst hs
        go_wp2
        go_ret
        exact ⟨rfl, hd.out⟩
      · rw [if_neg x2, if_neg (by omega)] at hs
        subst hs
        go_wp2
        go_ret
        exact ⟨rfl, hd.out⟩

theorem Try.info5 : (Try.prog.info? 5).map (fun i => (i.zero, i.size, i.bytes)) = some (some (.int .u8 0), 1, 1) := by kernel_rfl

/-- What a clone is good for. -/
structure ClonedB (w w' : World) (a' : Option Addr) (len cap : Nat) (zs : List Int) : Prop where
  arg : BArg w' a' len zs
  below : Below w.heap.size w w'
  room : len ≤ cap
  shape : (a' = none ∧ cap = 0) ∨ ∃ g, a' = some ⟨g, 0, none⟩

/-- What the loop of the clone knows after k rounds. -/
def CopyTo (w wr : World) (len k : Nat) (zs : List Int) : Prop :=
  ∃ xs, wr.ownsRow w.heap.size 5 1 (.slice (some ⟨w.heap.size, 0, none⟩) len len) len xs ∧ (∀ j, j < k → xs[j]? = some (.int .u8 (zs.getD j 0))) ∧ Below w.heap.size w wr

theorem CopyTo.stored {w wr : World} {len k : Nat} {zs : List Int} (h : CopyTo w wr len k zs) (hk : k < len) :
    CopyTo w (wr.setCell ⟨w.heap.size, k, none⟩ (.int .u8 (zs.getD k 0))) len (k + 1) zs := by
  obtain ⟨xs, ho, hx, hb⟩ := h
  have hl : xs.length = len := by have := ho.1; simpa using this
  refine ⟨xs.set k (.int .u8 (zs.getD k 0)), (ho.stored k _).1, fun j hj => ?_, hb.setCell (Nat.le_refl _) _⟩
  rw [List.getElem?_set]
  by_cases hjk : k = j
  · subst hjk; simp [hl, hk]
  · rw [if_neg hjk]; exact hx j (by omega)

theorem CopyTo.cell {w wr : World} {len k : Nat} {zs : List Int} (h : CopyTo w wr len k zs) (hk : k < len) :
    (∃ v, wr.cell? ⟨w.heap.size, k, none⟩ = some v) ∧ wr.frozen? ⟨w.heap.size, k, none⟩ = false := by
  obtain ⟨xs, ho, hx, hb⟩ := h
  have hl : xs.length = len := by have := ho.1; simpa using this
  refine ⟨⟨xs[k]'(by omega), ?_⟩, ho.frozenAt k⟩
  rw [ho.cellAt k (by simpa using hk)]
  simp

theorem CopyTo.done {w wr : World} {len : Nat} {zs : List Int} (h : CopyTo w wr len len zs) (h1 : zs.length = len) (h2 : len ≤ maxLen) (h3 : ∀ z ∈ zs, 0 ≤ z ∧ z ≤ 255) : ClonedB w wr (some ⟨w.heap.size, 0, none⟩) len len zs := by
  obtain ⟨xs, ho, hx, hb⟩ := h
  refine ⟨⟨h1, h2, h3, fun _ => ⟨w.heap.size, 0, rfl, fun k hk => ?_⟩⟩, hb, Nat.le_refl _, Or.inr ⟨_, rfl⟩⟩
  rw [ho.cellAt (0 + k) (by simpa using hk), Nat.zero_add]
  exact hx k hk

set_option maxHeartbeats 1000000 in
theorem clone10 (a : Option Addr) (len cap : Nat) (zs : List Int) (w : World) (h : BArg w a len zs) (hb : len ≤ 1048576) :
    Calls Try.prog 10 #[.slice a len cap] w fun e w' => ∃ a' cap', e = .returned (.slice a' len cap') ∧ ClonedB w w' a' len cap' zs := by
  have hs := h
  obtain ⟨h1, h2, h3, h4⟩ := h
  have hnil := fun (w : World) a n c => Lib.run_eql_slice_nil (P := Try.prog) w 23 5 a n c 0 0 Try.underlying23
  cases a with
  | none =>
    have h0 : len = 0 := by
      cases len with
      | zero => rfl
      | succ n => obtain ⟨b, off, hx, _⟩ := h4 (by omega); cases hx
    subst h0
    clear h4 h3
    go_enter Try.func10, Try.ntmps10
    go_wp2
    go_ret
    exact ⟨none, 0, rfl, hs, Below.refl _ _, Nat.le_refl _, Or.inl ⟨rfl, rfl⟩⟩
  | some x =>
    have h2' := h2
    unfold maxLen at h2'
    obtain ⟨i0, hi, hz0, hz1, hz2⟩ := info_parts Try.info5
    have hlt := hs.lt
    go_enter Try.func10, Try.ntmps10
    go_wp2_with (at_make; refine wpList_make_full _ rfl _ _ 23 rfl w.heap.size 5 i0 _ 1 Try.underlying23 hi hz0 hz1 .i64 .i64 _ _ len rfl rfl rfl rfl (by rw [hz2]; omega) h2 (Nat.le_refl _) ?_; intro w1 hown hgrow)
    go_loopw [4] (fun i wr => ∃ k : Nat, k ≤ len ∧ i = .int .i64 k ∧ CopyTo w wr len k zs) (fun i _ => len - (intOf i).toNat)
    case atStart => exact ⟨0, Nat.zero_le _, rfl, _, hown, fun j hj => absurd hj (Nat.not_lt_zero _), (Below.refl _ _).grown hgrow (Nat.le_refl _) (fun k hk => by cases hk)⟩
    case round =>
      obtain ⟨k, hk, rfl, hcp⟩ := hrel
      clear hown hgrow
      by_cases hkl : k < len
      · obtain ⟨b, off, hx, hc⟩ := h4 (by omega)
        obtain rfl := Option.some.inj hx
        have hbl := hlt _ rfl (by omega)
        have hbel : Below w.heap.size w wr := by obtain ⟨_, _, _, h⟩ := hcp; exact h
        have hcell : wr.cell? ⟨b, off + k, none⟩ = some (.int .u8 (zs.getD k 0)) := (hbel.cell (p := ⟨b, off + k, none⟩) hbl).trans (hc k hkl)
        obtain ⟨⟨v, hcv⟩, hfr⟩ := hcp.cell hkl
        have hnext := hcp.stored hkl
        obtain ⟨s, hs⟩ : ∃ s, s = zs.getD k 0 := ⟨_, rfl⟩
        rw [← hs] at hcell hnext
        clear hs hc h4 h3 hlt hcp
        go_wp2
        go_roundw
        case rel => exact ⟨k + 1, by omega, by go_num, hnext⟩
        case measure => simp [intOf]; omega
      · have : k = len := by omega
        subst this
        have hd := hcp.done h1 h2 h3
        clear h4 h3 hcp hlt
        go_wp2
        go_ret
        exact ⟨_, _, rfl, hd⟩
end Go.Proofs.Qxb6603491a
