/-
  36, 21: (*Register).join.
-/
import Derived.Test.Qxb6603349aSort
import Derived.Test.Qxb6603349aGrow
import Derived.Test.Qxb6603349aMerge
import Derived.BigRegion
import Derived.BigQuiet
import Derived.Deep.QuietTactic
namespace Go.Proofs.Qxb6603349a
open Go.RowKit Go.Maps
set_option linter.unusedVariables false

/-- Element p of a flat row of accounts is named s. -/
def AccC (cur : Array Value) (p : Nat) (s : ByteArray) : Prop := ∀ j, j < 5 → cur[p * 5 + j]? = (accCells s)[j]?

/-- What the merging loop knows: a of the register's and b of the opened names are left. -/
def MSt (w1 wr : World) (br g cap n m : Nat) (hs ms : List ByteArray) (a b : Nat) : Prop :=
  ∃ T cur, Mg hs ms T a b ∧ RegAt wr br (some ⟨g, 0, none⟩) (n + m) cap ∧ wr.heap[g]? = some (.cells cur 42 (0, 0)) ∧ cur.size = cap * 5 ∧
    (∀ p, p < a → AccC cur p (hs.getD p ByteArray.empty)) ∧ (∀ p, p < T.length → AccC cur (a + b + p) (T.getD p ByteArray.empty)) ∧ Ext w1 wr (fun k => k = br ∨ k = g)

theorem MSt.acc {w1 wr : World} {br g cap n m : Nat} {hs ms : List ByteArray} {a b : Nat} (h : MSt w1 wr br g cap n m hs ms a b) {p : Nat} (hp : p < a) : AccAt wr g (p * 5) (hs.getD p ByteArray.empty) := by
  obtain ⟨T, cur, _, _, hc, _, h1, _⟩ := h
  have hcc := fun j => cell_of_row wr g (p * 5 + j) cur 42 (0, 0) hc
  have := h1 p hp
  exact ⟨(hcc 0).trans (this 0 (by omega)), (hcc 1).trans (this 1 (by omega)), (hcc 2).trans (this 2 (by omega)), (hcc 3).trans (this 3 (by omega)), (hcc 4).trans (this 4 (by omega))⟩

/-- Place q can be written. -/
theorem MSt.free {w1 wr : World} {br g cap n m : Nat} {hs ms : List ByteArray} {a b : Nat} (h : MSt w1 wr br g cap n m hs ms a b) {q : Nat} (hq : q < cap) : (∀ j, j < 5 → ∃ v, wr.cell? ⟨g, q * 5 + j, none⟩ = some v) ∧ ∀ o, wr.frozen? ⟨g, o, none⟩ = false := by
  obtain ⟨T, cur, _, _, hc, hsz, _⟩ := h
  refine ⟨fun j hj => ?_, fun o => frozen_of_row wr g o cur 42 hc⟩
  rw [cell_of_row wr g (q * 5 + j) cur 42 (0, 0) hc]
  exact ⟨_, Array.getElem?_eq_getElem (by rw [hsz]; omega)⟩

/-- An account laid at place q. -/
def put5 (w : World) (g q : Nat) (s : ByteArray) : World :=
  ((((w.setCell ⟨g, q * 5, none⟩ (.string s)).setCell ⟨g, q * 5 + 1, none⟩ (.int .i64 0)).setCell ⟨g, q * 5 + 2, none⟩ (.int .i64 0)).setCell ⟨g, q * 5 + 3, none⟩ (.int .i64 0)).setCell ⟨g, q * 5 + 4, none⟩ (.int .i64 0)

def cur5 (cur : Array Value) (q : Nat) (s : ByteArray) : Array Value :=
  ((((cur.setIfInBounds (q * 5) (.string s)).setIfInBounds (q * 5 + 1) (.int .i64 0)).setIfInBounds (q * 5 + 2) (.int .i64 0)).setIfInBounds (q * 5 + 3) (.int .i64 0)).setIfInBounds (q * 5 + 4) (.int .i64 0)

theorem put5_same {w : World} {g q : Nat} {s : ByteArray} {cur : Array Value} (h : w.heap[g]? = some (.cells cur 42 (0, 0))) : (put5 w g q s).heap[g]? = some (.cells (cur5 cur q s) 42 (0, 0)) := by
  have h1 := heap_setCell_same w g (q * 5) cur 42 (.string s) h
  have h2 := heap_setCell_same _ g (q * 5 + 1) _ 42 (.int .i64 0) h1
  have h3 := heap_setCell_same _ g (q * 5 + 2) _ 42 (.int .i64 0) h2
  have h4 := heap_setCell_same _ g (q * 5 + 3) _ 42 (.int .i64 0) h3
  have h5 := heap_setCell_same _ g (q * 5 + 4) _ 42 (.int .i64 0) h4
  unfold put5 cur5
  exact h5

theorem ext_setCell (w : World) (g j : Nat) (v : Value) : Ext w (w.setCell ⟨g, j, none⟩ v) (fun k => k = g) :=
  ⟨rfl, rfl, rfl, by simp [World.setCell], fun k _ hk => Below.heap_setCell _ _ _ _ (fun e => hk e)⟩

theorem put5_ext (w : World) (g q : Nat) (s : ByteArray) : Ext w (put5 w g q s) (fun k => k = g) := by
  unfold put5
  exact (((((ext_setCell w g _ _).trans (ext_setCell _ g _ _)).trans (ext_setCell _ g _ _)).trans (ext_setCell _ g _ _)).trans (ext_setCell _ g _ _))

theorem cur5_size (cur : Array Value) (q : Nat) (s : ByteArray) : (cur5 cur q s).size = cur.size := by simp [cur5]

theorem cur5_at {cur : Array Value} {q : Nat} {s : ByteArray} (h : q * 5 + 4 < cur.size) : AccC (cur5 cur q s) q s := by
  intro j hj
  match j, hj with
  | 0, _ => simp [cur5, accCells, Array.getElem?_setIfInBounds]; omega
  | 1, _ => simp [cur5, accCells, Array.getElem?_setIfInBounds]; omega
  | 2, _ => simp [cur5, accCells, Array.getElem?_setIfInBounds]; omega
  | 3, _ => simp [cur5, accCells, Array.getElem?_setIfInBounds]; omega
  | 4, _ => simp [cur5, accCells, Array.getElem?_setIfInBounds]; omega

theorem cur5_other {cur : Array Value} {q p : Nat} {s u : ByteArray} (hp : p ≠ q) (h : AccC cur p u) : AccC (cur5 cur q s) p u := by
  intro j hj
  rw [← h j hj]
  unfold cur5
  rw [Array.getElem?_setIfInBounds_ne (by omega), Array.getElem?_setIfInBounds_ne (by omega), Array.getElem?_setIfInBounds_ne (by omega), Array.getElem?_setIfInBounds_ne (by omega), Array.getElem?_setIfInBounds_ne (by omega)]

theorem ext_drewN (w : World) (n : Nat) (S : Nat → Prop) : Ext w (w.drewN n) S := ⟨rfl, rfl, rfl, Nat.le_refl _, fun _ _ _ => rfl⟩

theorem MSt.put {w1 wr : World} {br g cap n m : Nat} {hs ms : List ByteArray} {a b a' b' q : Nat} {s : ByteArray} (h : MSt w1 wr br g cap n m hs ms a b) (hq : q + 1 = a + b) (hq' : q = a' + b') (ha : a' ≤ a) (hqc : q < cap)
    (hMg : ∀ T, Mg hs ms T a b → Mg hs ms (s :: T) a' b') (k : Nat) : MSt w1 (put5 (wr.drewN k) g q s) br g cap n m hs ms a' b' := by
  obtain ⟨T, cur, hT, hr, hc, hsz, h1, h2, he⟩ := h
  have hgr : g ≠ br := by
    intro e
    subst e
    unfold RegAt at hr
    rw [hc] at hr
    simp at hr
  have hx := (ext_drewN wr k (fun k => k = g)).trans (put5_ext (wr.drewN k) g q s)
  refine ⟨s :: T, cur5 cur q s, hMg T hT, (hx.block br (lt_of_block hr) (fun e => hgr e.symm)).trans hr, put5_same (w := wr.drewN k) hc, by rw [cur5_size, hsz], fun p hp => ?_, fun p hp => ?_, he.trans (hx.mono fun k hk => Or.inr hk)⟩
  · exact cur5_other (by omega) (h1 p (by omega))
  · cases p with
    | zero =>
      have := cur5_at (cur := cur) (q := q) (s := s) (by rw [hsz]; omega)
      rw [Nat.add_zero, ← hq']
      simpa using this
    | succ p =>
      have := h2 p (by simpa using hp)
      rw [show a' + b' + (p + 1) = a + b + p from by omega]
      simpa using cur5_other (s := s) (q := q) (by omega) this

/-- What 'join' leaves: the opened slice sorted in place, the register's accounts the increasing union. -/
structure Joined (w w' : World) (br baseO gO capO : Nat) (aR : Option Addr) (hs os ms R : List ByteArray) (aR' : Option Addr) (capR' : Nat) : Prop where
  perm : ms.Perm os
  incM : Inc ms
  opened : w'.ownsRow baseO 42 5 (.slice (some ⟨gO, 0, none⟩) ms.length capO) ms.length (accRow ms)
  incR : Inc R
  lenR : R.length = hs.length + os.length
  memR : ∀ x, x ∈ R ↔ x ∈ hs ∨ x ∈ os
  reg : RegAt w' br aR' R.length capR'
  racc : AccArg w' aR' R.length R
  ext : Ext w w' (fun k => k = br ∨ k = gO ∨ ∃ x, aR = some x ∧ x.block = k)

theorem MSt.start {w1 w2 : World} {br baseR g cap n m : Nat} {hs ms : List ByteArray} {aR : Option Addr} {capR : Nat} (hn : hs.length = n) (hm : ms.length = m) (hreg : RegAt w2 br aR n capR) (hR : w2.ownsRow baseR 42 5 (.slice (some ⟨g, 0, none⟩) hs.length cap) hs.length (accRow hs)) (hb : Below w1.heap.size w1 w2) :
    MSt w1 (w2.setCell ⟨br, 1, none⟩ (.slice (some ⟨g, 0, none⟩) (n + m) cap)) br g cap n m hs ms n m := by
  rcases hR.2 with ⟨hv, _⟩ | ⟨g', cap', cur, hv, _, hh, hnc, hcm, hsz, htake⟩
  · cases hv
  · simp only [Value.slice.injEq, Option.some.injEq, Addr.mk.injEq, and_true, true_and] at hv
    obtain ⟨rfl, rfl⟩ := hv
    have hgr : g ≠ br := by
      intro e
      subst e
      unfold RegAt at hreg
      rw [hh] at hreg
      simp at hreg
    have hx := ext_setCell w2 br 1 (.slice (some ⟨g, 0, none⟩) (n + m) cap)
    refine ⟨[], cur, ?_, ?_, (hx.block g (lt_of_block hh) hgr).trans hh, hsz, fun p hp j hj => ?_, fun p hp => by simp at hp, (Ext.of_below hb _).trans (hx.mono fun k hk => Or.inl hk)⟩
    · have := Mg.start hs ms
      rwa [hn, hm] at this
    · unfold RegAt at hreg ⊢
      rw [heap_setCell_same w2 br 1 _ 66 _ hreg]
      rfl
    · rw [← accRow_get hs p j (by omega) hj, ← htake, List.getElem?_take, if_pos (by omega)]
      simp

theorem MSt.joined {w w1 wr : World} {br baseO g gO capO cap n m : Nat} {hs ms os : List ByteArray} {aR : Option Addr} {a : Nat} (hn : hs.length = n) (hm : ms.length = m) (h : MSt w1 wr br g cap n m hs ms a 0) (hO : wr.ownsRow baseO 42 5 (.slice (some ⟨gO, 0, none⟩) ms.length capO) ms.length (accRow ms))
    (hinc : Inc hs) (hincM : Inc ms) (hperm : ms.Perm os) (hsz : ∀ s ∈ hs, s.size ≤ maxLen) (osz : ∀ s ∈ os, s.size ≤ maxLen) (he1 : Ext w w1 (fun k => k = gO)) (hg : w1.heap.size ≤ g ∨ ∃ x, aR = some x ∧ x.block = g) (hw : w.heap.size ≤ w1.heap.size) :
    ∃ R aR' capR', Joined w wr br baseO gO capO aR hs os ms R aR' capR' := by
  obtain ⟨T, cur, hMg, hr, hc, hcs, h1, h2, he⟩ := h
  obtain ⟨d1, d2, d3⟩ := hMg.done hinc
  have hal : a ≤ hs.length := hMg.ha
  refine ⟨hs.take a ++ T, some ⟨g, 0, none⟩, cap, hperm, hincM, hO, d1, by rw [d2, hperm.length_eq], fun x => by rw [d3 x, hperm.mem_iff], ?_, ⟨rfl, fun s hs' => ?_, fun _ => ⟨g, 0, rfl, fun k hk => ?_⟩⟩, ?_⟩
  · rw [d2, hn, hm]
    exact hr
  · rcases (d3 s).1 hs' with h | h
    · exact hsz s h
    · exact osz s (hperm.mem_iff.1 h)
  · have hcell := fun j => cell_of_row wr g (k * 5 + j) cur 42 (0, 0) hc
    have hA : AccC cur k ((hs.take a ++ T).getD k ByteArray.empty) := by
      by_cases hka : k < a
      · have := h1 k hka
        rwa [show (hs.take a ++ T).getD k ByteArray.empty = hs.getD k ByteArray.empty from by
          rw [List.getD_eq_getElem?_getD, List.getD_eq_getElem?_getD, List.getElem?_append_left (by simp; omega), List.getElem?_take, if_pos hka]]
      · have hkT : k - a < T.length := by simp at hk; omega
        have := h2 (k - a) hkT
        rw [show a + 0 + (k - a) = k from by omega] at this
        rwa [show (hs.take a ++ T).getD k ByteArray.empty = T.getD (k - a) ByteArray.empty from by
          rw [List.getD_eq_getElem?_getD, List.getD_eq_getElem?_getD, List.getElem?_append_right (by simp; omega), List.length_take, Nat.min_eq_left hal]]
    rw [Nat.zero_add]
    exact ⟨(hcell 0).trans (hA 0 (by omega)), (hcell 1).trans (hA 1 (by omega)), (hcell 2).trans (hA 2 (by omega)), (hcell 3).trans (hA 3 (by omega)), (hcell 4).trans (hA 4 (by omega))⟩
  · refine ⟨he.os.trans he1.os, he.tape.trans he1.tape, he.output.trans he1.output, Nat.le_trans he1.size he.size, fun k hk hne => ?_⟩
    rw [he.block k (by omega) (fun e => ?_), he1.block k hk (fun e => hne (Or.inr (Or.inl e)))]
    rcases e with e | e
    · exact hne (Or.inl e)
    · rcases hg with hg | ⟨x, hx, hb⟩
      · omega
      · exact hne (Or.inr (Or.inr ⟨x, hx, by omega⟩))

set_option maxHeartbeats 1000000 in
set_option maxRecDepth 100000 in
theorem join36 (br baseR baseO gR n capR : Nat) (hs : List ByteArray) (gO m capO : Nat) (os : List ByteArray) (w : World) (HN : Hid (hs.length = n)) (HM : Hid (os.length = m))
    (hreg : RegAt w br (some ⟨gR, 0, none⟩) n capR) (hR : w.ownsRow baseR 42 5 (.slice (some ⟨gR, 0, none⟩) hs.length capR) hs.length (accRow hs)) (hO : w.ownsRow baseO 42 5 (.slice (some ⟨gO, 0, none⟩) os.length capO) os.length (accRow os)) (hne : gR ≠ gO) (hbR : baseR ≤ w.heap.size)
    (hinc : Inc hs) (hnd : os.Nodup) (hdis : ∀ s ∈ os, s ∉ hs) (hsz : ∀ s ∈ hs, s.size ≤ maxLen) (osz : ∀ s ∈ os, s.size ≤ maxLen) (hnH : n ≤ 65536) (hnO : m ≤ 65536) :
    Calls Try.prog 36 #[.pointer (some ⟨br, 0, none⟩), .slice (some ⟨gO, 0, none⟩) m capO] w fun e w' => e = .returned (.tuple #[]) ∧ ∃ ms R aR' capR', Joined w w' br baseO gO capO (some ⟨gR, 0, none⟩) hs os ms R aR' capR' := by
  have c38 := sort38 baseO gO capO os w hO hnd (by rw [HM.out]; omega)
  rw [HM.out] at c38
  go_enter Try.func36, Try.ntmps36
  go_wp2_with fail
  refine c38.mono ?_
  rintro e w1 ⟨rfl, ms, hperm, hincM, hO1, he1⟩
  clear c38
  have hbrO : br ≠ gO := fun e => by
    obtain ⟨_, cur, hc⟩ := owns_block hO (b := gO) rfl
    unfold RegAt at hreg
    rw [e, hc] at hreg
    simp at hreg
  have hreg1 : RegAt w1 br (some ⟨gR, 0, none⟩) n capR := (he1.block br (lt_of_block hreg) hbrO).trans hreg
  have hR1 : w1.ownsRow baseR 42 5 (.slice (some ⟨gR, 0, none⟩) hs.length capR) hs.length (accRow hs) := owns_ext hR he1 (fun b hb e => hne (by simp [Value.ownBlock] at hb; omega))
  have HL : Hid (ms.length = m) := hperm.length_eq.trans HM.out
  obtain ⟨r0, r1⟩ := hreg1.cells
  have c40 := grow40 baseR (some ⟨gR, 0, none⟩) capR m hs w1 hR1 (by have := he1.size; omega) (by rw [HN.out]; omega) (by omega)
  rw [HN.out] at c40
  go_wp2_with fail
  refine c40.mono ?_
  rintro e w2 ⟨a', cap', rfl, hg⟩
  obtain ⟨hcap, hR2, hb2, haa⟩ := hg
  rw [HN.out] at hcap
  have hreg2 : RegAt w2 br (some ⟨gR, 0, none⟩) n capR := (hb2.block br (lt_of_block hreg1)).trans hreg1
  obtain ⟨g, rfl⟩ : ∃ g, a' = some ⟨g, 0, none⟩ := by
    rcases haa with e | e
    · exact ⟨gR, e⟩
    · exact ⟨_, e⟩
  have hgO1 : gO < w1.heap.size := by obtain ⟨_, cur, hc⟩ := owns_block hO1 (b := gO) rfl; exact lt_of_block hc
  have hgO : g ≠ gO := by
    rcases haa with e | e
    · cases e; exact hne
    · cases e; omega
  have hgW : w1.heap.size ≤ g ∨ ∃ x, (some ⟨gR, 0, none⟩ : Option Addr) = some x ∧ x.block = g := by
    rcases haa with e | e
    · cases e; exact Or.inr ⟨_, rfl, rfl⟩
    · cases e; exact Or.inl (Nat.le_refl _)
  obtain ⟨s0, s1⟩ := hreg2.cells
  have sf : w2.frozen? ⟨br, 1, none⟩ = false := frozen_of_row w2 br 1 _ 66 hreg2
  have hc63 : cap' ≤ 9223372036854775807 := by
    rcases hR2.2 with ⟨hv, _⟩ | ⟨g', cap'', cur, hv, _, _, _, hcm, _⟩
    · cases hv
    · simp only [Value.slice.injEq] at hv
      obtain ⟨_, _, rfl⟩ := hv
      unfold maxLen at hcm
      omega
  have hm0 := MSt.start (ms := ms) HN.out HL.out hreg2 hR2 hb2
  have hO2 : (w2.setCell ⟨br, 1, none⟩ (.slice (some ⟨g, 0, none⟩) (n + m) cap')).ownsRow baseO 42 5 (.slice (some ⟨gO, 0, none⟩) ms.length capO) ms.length (accRow ms) :=
    owns_ext (owns_ext hO1 (Ext.of_below hb2 fun _ => False) (fun _ _ e => e)) (ext_setCell w2 br 1 _) (fun b hb e => hbrO (by simp [Value.ownBlock] at hb; omega))
  have hfin : Hid (∀ wr a, MSt w1 wr br g cap' n m hs ms a 0 → wr.ownsRow baseO 42 5 (.slice (some ⟨gO, 0, none⟩) ms.length capO) ms.length (accRow ms) → ∃ ms R aR' capR', Joined w wr br baseO gO capO (some ⟨gR, 0, none⟩) hs os ms R aR' capR') := fun wr a h1 h2 =>
    ⟨ms, h1.joined HN.out HL.out h2 hinc hincM hperm hsz osz he1 hgW he1.size⟩
  have hdisM : Hid (∀ s ∈ ms, s ∉ hs) := fun s hs' => hdis s (hperm.mem_iff.1 hs')
  clear r0 r1 hreg hR hO hO1 he1 hreg1 hR1 hb2 haa hreg2 c40 hne hdis hnd hR2 hgW hgO1 hsz osz
  go_wp2
  go_loopw [5, 6, 7] (fun vi vj vw wr => ∃ a b c : Nat, vi = .int .i64 ((a : Int) - 1) ∧ vj = .int .i64 ((b : Int) - 1) ∧ vw = .int .i64 ((c : Int) - 1) ∧ c = a + b ∧ MSt w1 wr br g cap' n m hs ms a b ∧ wr.ownsRow baseO 42 5 (.slice (some ⟨gO, 0, none⟩) ms.length capO) ms.length (accRow ms)) (fun vi vj _ _ => (intOf vi + intOf vj + 2).toNat)
  case atStart => exact ⟨n, m, n + m, rfl, rfl, by go_num, rfl, hm0, hO2⟩
  case round =>
    clear hm0 hO2 s0 s1 sf
    obtain ⟨a, b, c, rfl, rfl, rfl, hc, hms, hO3⟩ := hrel
    have HC : Hid (c = a + b) := hc
    clear hc
    cases b with
    | zero =>
      have hF := hfin.out wr a hms hO3
      clear hms hO3 hfin
      go_wp2
      go_end0
      exact ⟨rfl, hF⟩
    | succ b =>
      clear hfin
      obtain ⟨q, rfl⟩ : ∃ q, c = q + 1 := ⟨a + b, HC.out⟩
      have hq : q = a + b := by have := HC.out; omega
      have hbl : b < ms.length := by obtain ⟨T, cur, hMg, _⟩ := hms; exact hMg.hb
      have hal : a ≤ hs.length := by obtain ⟨T, cur, hMg, _⟩ := hms; exact hMg.ha
      have hqc : q < cap' := by have := HN.out; have := HL.out; omega
      obtain ⟨fr, fz⟩ := hms.free hqc
      obtain ⟨v0, f0⟩ : ∃ v, wr.cell? ⟨g, q * 5, none⟩ = some v := fr 0 (by omega)
      have hqi : (q : Int) < (n : Int) + (m : Int) := by have := HN.out; have := HL.out; omega
      obtain ⟨v1, f1⟩ := fr 1 (by omega)
      obtain ⟨v2, f2⟩ := fr 2 (by omega)
      obtain ⟨v3, f3⟩ := fr 3 (by omega)
      obtain ⟨v4, f4⟩ := fr 4 (by omega)
      obtain ⟨y0, y1, y2, y3, y4⟩ : AccAt wr gO (b * 5) (ms.getD b ByteArray.empty) := by
        have hcc := fun j (hj : j < 5) => (hO3.cellAt (b * 5 + j) (by omega)).trans (accRow_get ms b j hbl hj)
        exact ⟨hcc 0 (by omega), hcc 1 (by omega), hcc 2 (by omega), hcc 3 (by omega), hcc 4 (by omega)⟩
      have r1 : wr.cell? ⟨br, 1, none⟩ = some (.slice (some ⟨g, 0, none⟩) (n + m) cap') := by obtain ⟨T, cur, _, hr, _⟩ := hms; exact hr.cells.2
      have hbm : b < m := by rw [← HL.out]; exact hbl
      have hqn : q < n + m := by have := HN.out; omega
      have hMy := fun (hlt : ∀ a', a = a' + 1 → blt (hs.getD a' ByteArray.empty) (ms.getD b ByteArray.empty) = true) T (hT : Mg hs ms T a (b + 1)) => hT.stepM hinc hincM hlt
      have hMx0 : ∀ a', a = a' + 1 → blt (ms.getD b ByteArray.empty) (hs.getD a' ByteArray.empty) = true → ∀ T, Mg hs ms T a (b + 1) → Mg hs ms (hs.getD a' ByteArray.empty :: T) a' (b + 1) := fun a' e hlt T hT => by subst e; exact hT.stepH hinc hincM hlt
      have hxy0 : ∀ a', a = a' + 1 → ((hs.getD a' ByteArray.empty).toList == (ms.getD b ByteArray.empty).toList) = false := fun a' e => by
        rw [toList_beq]
        simp only [decide_eq_false_iff_not]
        intro e2
        have h1 : hs.getD a' ByteArray.empty ∈ hs := by rw [getD_eq (by omega)]; exact List.getElem_mem _
        have h2 : ms.getD b ByteArray.empty ∈ ms := by rw [getD_eq hbl]; exact List.getElem_mem _
        exact hdisM.out _ h2 (e2 ▸ h1)
      generalize ms.getD b ByteArray.empty = y at y0 y1 y2 y3 y4 hMy hMx0 hxy0
      have hann : a ≤ n := by rw [← HN.out]; exact hal
      clear hbl hal fr HC
      have HQ : Hid (q = a + b) := hq
      clear hq
      have z0 := fz (q * 5)
      have z1 := fz (q * 5 + 1)
      have z2 := fz (q * 5 + 2)
      have z3 := fz (q * 5 + 3)
      have z4 := fz (q * 5 + 4)
      clear fz
      rw [show ((b + 1 : Nat) : Int) - 1 = (b : Int) from by omega, show ((q + 1 : Nat) : Int) - 1 = (q : Int) from by omega]
      cases a with
      | zero =>
        have hMy := hMy (fun a' e => by cases e)
        clear hMx0 hxy0
        rw [show ((0 : Nat) : Int) - 1 = -1 from rfl]
        go_wp2
        go_quiet (fail)
        go_wp2
        go_region
        go_wp2
        have hms' := hms.put (a' := 0) (b' := b) (q := q) (s := y) (by have := HQ.out; omega) HQ.out (by omega) hqc (hMy) (nq + 1)
        have hO4 : (put5 (wr.drewN (nq + 1)) g q y).ownsRow baseO 42 5 (.slice (some ⟨gO, 0, none⟩) ms.length capO) ms.length (accRow ms) := owns_ext hO3 ((ext_drewN wr (nq + 1) _).trans (put5_ext _ g q y)) (fun b hb e => hgO (by simp [Value.ownBlock] at hb; omega))
        go_roundw
        case rel => exact ⟨0, b, q, rfl, rfl, rfl, HQ.out, hms', hO4⟩
        case measure => simp [intOf]; omega
      | succ a =>
        obtain ⟨x0, x1, x2, x3, x4⟩ := hms.acc (p := a) (by omega)
        have hMx := hMx0 a rfl
        rw [show ((a + 1 : Nat) : Int) - 1 = (a : Int) from by omega]
        have hxy : ((hs.getD a ByteArray.empty).toList == y.toList) = false := hxy0 a rfl
        have han : a < n + m := by omega
        have hani : (a : Int) < (n : Int) + (m : Int) := by omega
        have hMyT : blt (hs.getD a ByteArray.empty) y = true → ∀ T, Mg hs ms T (a + 1) (b + 1) → Mg hs ms (y :: T) (a + 1) b := fun h => hMy (fun a' e => by cases e; exact h)
        clear hMy hMx0 hxy0
        generalize hs.getD a ByteArray.empty = x at x0 x1 x2 x3 x4 hMx hMyT hxy
        cases hlt : Op.bytesLess x.toList y.toList with
        | true =>
          have hMy' := hMyT hlt
          clear hMyT hMx
          go_wp2
          go_quiet (fail)
          go_wp2
          go_region
          go_wp2
          have hms' := hms.put (a' := a + 1) (b' := b) (q := q) (s := y) (by have := HQ.out; omega) HQ.out (by omega) hqc hMy' (nq + 1)
          have hO4 : (put5 (wr.drewN (nq + 1)) g q y).ownsRow baseO 42 5 (.slice (some ⟨gO, 0, none⟩) ms.length capO) ms.length (accRow ms) := owns_ext hO3 ((ext_drewN wr (nq + 1) _).trans (put5_ext _ g q y)) (fun b hb e => hgO (by simp [Value.ownBlock] at hb; omega))
          go_roundw
          case rel => exact ⟨a + 1, b, q, by go_num, rfl, rfl, HQ.out, hms', hO4⟩
          case measure => simp [intOf]; omega
        | false =>
          have hyx : blt y x = true := by
            cases hb : blt y x with
            | true => rfl
            | false =>
              have e := blt_tri (a := x) (b := y) hlt hb
              rw [e] at hxy
              simp at hxy
          have hMx' := hMx hyx
          clear hMyT hMx hyx
          go_wp2
          go_quiet (fail)
          go_wp2
          go_region
          go_wp2
          have hms' := hms.put (a' := a) (b' := b + 1) (q := q) (s := x) (by have := HQ.out; omega) (by have := HQ.out; omega) (by omega) hqc hMx' (nq + 1)
          have hO4 : (put5 (wr.drewN (nq + 1)) g q x).ownsRow baseO 42 5 (.slice (some ⟨gO, 0, none⟩) ms.length capO) ms.length (accRow ms) := owns_ext hO3 ((ext_drewN wr (nq + 1) _).trans (put5_ext _ g q x)) (fun b hb e => hgO (by simp [Value.ownBlock] at hb; omega))
          go_roundw
          case rel => exact ⟨a, b + 1, q, rfl, by go_num, rfl, by have := HQ.out; omega, hms', hO4⟩
          case measure => simp [intOf]; omega
end Go.Proofs.Qxb6603349a
