/-
  9: ceCloneE: rows of entries that the call itself makes.
-/
import Derived.Test.Qxb6603491aEnts
namespace Go.Proofs.Qxb6603491a
open Go.RowKit
set_option linter.unusedVariables false

theorem Try.info36 : (Try.prog.info? 36).map (fun i => (i.zero, i.size, i.bytes)) = some (some (.agg #[.int .u64 0, .int .u32 0, .int .u32 0, .int .u32 0]), 4, 24) := by kernel_rfl
theorem Try.info55 : (Try.prog.info? 55).map (fun i => (i.zero, i.size, i.bytes)) = some (some (.agg #[.int .u64 0, .int .u32 0, .int .u32 0, .int .u32 0]), 4, 24) := by kernel_rfl

/-- Element p of a flat row of entries is e. -/
def EntC (cur : Array Value) (p : Nat) (e : Ent) : Prop :=
  cur[p * 4]? = some (.int .u64 e.h) ∧ cur[p * 4 + 1]? = some (.int .u32 e.ka) ∧ cur[p * 4 + 2]? = some (.int .u32 e.va) ∧ cur[p * 4 + 3]? = some (.int .u32 e.en)

/-- A row of len entries at block g, of which the first k are laid. -/
def EntTo (t : TypeId) (wr : World) (g len k : Nat) (es : List Ent) : Prop :=
  ∃ cur, wr.heap[g]? = some (.cells cur t (0, 0)) ∧ cur.size = len * 4 ∧ ∀ p, p < k → EntC cur p (es.getD p e0)

/-- An entry laid at place q. -/
def put4 (w : World) (g q : Nat) (e : Ent) : World :=
  (((w.setCell ⟨g, q * 4, none⟩ (.int .u64 e.h)).setCell ⟨g, q * 4 + 1, none⟩ (.int .u32 e.ka)).setCell ⟨g, q * 4 + 2, none⟩ (.int .u32 e.va)).setCell ⟨g, q * 4 + 3, none⟩ (.int .u32 e.en)

def cur4 (cur : Array Value) (q : Nat) (e : Ent) : Array Value :=
  (((cur.setIfInBounds (q * 4) (.int .u64 e.h)).setIfInBounds (q * 4 + 1) (.int .u32 e.ka)).setIfInBounds (q * 4 + 2) (.int .u32 e.va)).setIfInBounds (q * 4 + 3) (.int .u32 e.en)

theorem put4_same {w : World} {g q : Nat} {e : Ent} {cur : Array Value} {t : TypeId} (h : w.heap[g]? = some (.cells cur t (0, 0))) : (put4 w g q e).heap[g]? = some (.cells (cur4 cur q e) t (0, 0)) := by
  have h1 := heap_setCell_same w g (q * 4) cur t (.int .u64 e.h) h
  have h2 := heap_setCell_same _ g (q * 4 + 1) _ t (.int .u32 e.ka) h1
  have h3 := heap_setCell_same _ g (q * 4 + 2) _ t (.int .u32 e.va) h2
  have h4 := heap_setCell_same _ g (q * 4 + 3) _ t (.int .u32 e.en) h3
  unfold put4 cur4
  exact h4

theorem put4_below {w wr : World} {B g q : Nat} {e : Ent} (h : Below B w wr) (hB : B ≤ g) : Below B w (put4 wr g q e) := by
  unfold put4
  exact (((h.setCell hB _).setCell hB _).setCell hB _).setCell hB _

theorem cur4_at {cur : Array Value} {q : Nat} {e : Ent} (h : q * 4 + 3 < cur.size) : EntC (cur4 cur q e) q e := by
  refine ⟨?_, ?_, ?_, ?_⟩ <;> simp [cur4, Array.getElem?_setIfInBounds] <;> omega

theorem cur4_other {cur : Array Value} {q p : Nat} {e u : Ent} (hp : p ≠ q) (h : EntC cur p u) : EntC (cur4 cur q e) p u := by
  have hne : ∀ j j', j < 4 → j' < 4 → q * 4 + j' ≠ p * 4 + j := fun j j' _ _ => by omega
  refine ⟨?_, ?_, ?_, ?_⟩
  · rw [← h.1]; unfold cur4
    rw [Array.getElem?_setIfInBounds_ne (by omega), Array.getElem?_setIfInBounds_ne (by omega), Array.getElem?_setIfInBounds_ne (by omega), Array.getElem?_setIfInBounds_ne (by omega)]
  · rw [← h.2.1]; unfold cur4
    rw [Array.getElem?_setIfInBounds_ne (by omega), Array.getElem?_setIfInBounds_ne (by omega), Array.getElem?_setIfInBounds_ne (by omega), Array.getElem?_setIfInBounds_ne (by omega)]
  · rw [← h.2.2.1]; unfold cur4
    rw [Array.getElem?_setIfInBounds_ne (by omega), Array.getElem?_setIfInBounds_ne (by omega), Array.getElem?_setIfInBounds_ne (by omega), Array.getElem?_setIfInBounds_ne (by omega)]
  · rw [← h.2.2.2]; unfold cur4
    rw [Array.getElem?_setIfInBounds_ne (by omega), Array.getElem?_setIfInBounds_ne (by omega), Array.getElem?_setIfInBounds_ne (by omega), Array.getElem?_setIfInBounds_ne (by omega)]

theorem EntTo.put {t : TypeId} {wr : World} {g len k : Nat} {es : List Ent} (h : EntTo t wr g len k es) (hk : k < len) : EntTo t (put4 wr g k (es.getD k e0)) g len (k + 1) es := by
  obtain ⟨cur, hc, hs, hp⟩ := h
  refine ⟨cur4 cur k (es.getD k e0), put4_same hc, by simp [cur4, hs], fun p hp' => ?_⟩
  by_cases e : p = k
  · subst e; exact cur4_at (by omega)
  · exact cur4_other e (hp p (by omega))

theorem EntTo.free {t : TypeId} {wr : World} {g len k : Nat} {es : List Ent} (h : EntTo t wr g len k es) {q : Nat} (hq : q < len) : (∀ j, j < 4 → ∃ v, wr.cell? ⟨g, q * 4 + j, none⟩ = some v) ∧ ∀ o, wr.frozen? ⟨g, o, none⟩ = false := by
  obtain ⟨cur, hc, hs, hp⟩ := h
  refine ⟨fun j hj => ?_, fun o => frozen_of_row wr g o cur t hc⟩
  rw [cell_of_row wr g (q * 4 + j) cur t (0, 0) hc]
  exact ⟨_, Array.getElem?_eq_getElem (by rw [hs]; omega)⟩

theorem EntTo.at {t : TypeId} {wr : World} {g len k : Nat} {es : List Ent} (h : EntTo t wr g len k es) {p : Nat} (hp : p < k) : EntAt wr g (p * 4) (es.getD p e0) := by
  obtain ⟨cur, hc, hs, hq⟩ := h
  have hcc := fun j => cell_of_row wr g j cur t (0, 0) hc
  obtain ⟨a, b, c, d⟩ := hq p hp
  exact ⟨(hcc _).trans a, (hcc _).trans b, (hcc _).trans c, (hcc _).trans d⟩

theorem EntTo.made {t : TypeId} {w : World} {base g n : Nat} {xs : List Value} {es : List Ent} (h : w.ownsRow base t 4 (.slice (some ⟨g, 0, none⟩) n n) n xs) : EntTo t w g n 0 es := by
  obtain ⟨_, ⟨h1, _⟩ | ⟨g', cap, cur, h1, h2, h3, h4, h5, h6, h7⟩⟩ := h
  · cases h1
  · cases h1
    exact ⟨cur, h3, h6, fun p hp => absurd hp (Nat.not_lt_zero _)⟩

theorem EntTo.arg {t : TypeId} {wr : World} {g len : Nat} {es : List Ent} (h : EntTo t wr g len len es) (h1 : es.length = len) (h2 : len ≤ maxLen) (h3 : ∀ e ∈ es, e.ok) : EArg wr (some ⟨g, 0, none⟩) len es :=
  ⟨h1, h2, h3, fun _ => ⟨g, 0, rfl, fun k hk => by rw [Nat.zero_add]; exact h.at hk⟩⟩

/-- What a clone of entries is good for. -/
structure ClonedE (w w' : World) (a' : Option Addr) (len : Nat) (es : List Ent) : Prop where
  arg : EArg w' a' len es
  below : Below w.heap.size w w'

set_option maxHeartbeats 2000000 in
theorem clone9 (a : Option Addr) (len cap : Nat) (es : List Ent) (w : World) (h : EArg w a len es) (hb : len ≤ 1048576) :
    Calls Try.prog 9 #[.slice a len cap] w fun e w' => ∃ a' cap', e = .returned (.slice a' len cap') ∧ ClonedE w w' a' len es := by
  have hs := h
  obtain ⟨h1, h2, h3, h4⟩ := h
  have hnil := fun (w : World) a n c => Lib.run_eql_slice_nil (P := Try.prog) w 22 36 a n c 0 0 Try.underlying22
  cases a with
  | none =>
    have h0 : len = 0 := by
      cases len with
      | zero => rfl
      | succ n => obtain ⟨b, off, hx, _⟩ := h4 (by omega); cases hx
    subst h0
    clear h4 h3
    go_enter Try.func9, Try.ntmps9
    go_wp2
    go_ret
    exact ⟨none, 0, rfl, hs, Below.refl _ _⟩
  | some x =>
    have h2' := h2
    unfold maxLen at h2'
    obtain ⟨i0, hi, hz0, hz1, hz2⟩ := info_parts Try.info36
    have hlt := hs.lt
    have H3 : Hid (∀ e ∈ es, e.ok) := h3
    have H4 : Hid (0 < len → ∃ b off, some x = some ⟨b, off, none⟩ ∧ ∀ k, k < len → EntAt w b (off + k * 4) (es.getD k e0)) := h4
    have HLT : Hid (∀ y, some x = some y → 0 < len → y.block < w.heap.size) := hlt
    have H1 : Hid (es.length = len) := h1
    clear h3 h4 hs hlt h1
    go_enter Try.func9, Try.ntmps9
    go_wp2_with (at_make; refine wpList_make_full _ rfl _ _ 22 rfl w.heap.size 36 i0 _ 4 Try.underlying22 hi hz0 hz1 .i64 .i64 _ _ len rfl rfl rfl rfl (by rw [hz2]; omega) h2 (Nat.le_refl _) ?_; intro w1 hown hgrow)
    have hto : Hid (EntTo 36 w1 w.heap.size len 0 es) := EntTo.made hown
    have hbe : Hid (Below w.heap.size w w1) := (Below.refl _ _).grown hgrow (Nat.le_refl _) (fun k hk => by cases hk)
    clear hown hgrow hi hz0 hz1 hz2
    obtain ⟨g, hg⟩ : ∃ g, g = w.heap.size := ⟨_, rfl⟩
    rw [← hg] at hto ⊢
    have HG : Hid (g = w.heap.size) := hg
    clear hg
    go_loopw [4] (fun i wr => ∃ k : Nat, k ≤ len ∧ i = .int .i64 k ∧ Hid (EntTo 36 wr g len k es) ∧ Hid (Below w.heap.size w wr)) (fun i _ => len - (intOf i).toNat)
    case atStart => exact ⟨0, Nat.zero_le _, rfl, hto, hbe⟩
    case round =>
      clear hto hbe
      obtain ⟨k, hk, rfl, hto, hbe⟩ := hrel
      by_cases hkl : k < len
      · obtain ⟨b, off, hx, hc⟩ := H4.out (by omega)
        have hbl := HLT.out _ hx (by omega)
        obtain rfl := Option.some.inj hx
        have hnx : Hid (EntTo 36 (put4 wr g k (es.getD k e0)) g len (k + 1) es) := hto.out.put hkl
        have hnb : Hid (Below w.heap.size w (put4 wr g k (es.getD k e0))) := put4_below hbe.out (Nat.le_of_eq HG.out.symm)
        have hce := (hc k hkl).below hbe.out hbl
        obtain ⟨hfr, hfz⟩ := hto.out.free hkl
        obtain ⟨v0, f0⟩ := hfr 0 (by omega)
        obtain ⟨v1, f1⟩ := hfr 1 (by omega)
        obtain ⟨v2, f2⟩ := hfr 2 (by omega)
        obtain ⟨v3, f3⟩ := hfr 3 (by omega)
        have z0 := hfz (k * 4)
        have z1 := hfz (k * 4 + 1)
        have z2 := hfz (k * 4 + 2)
        have z3 := hfz (k * 4 + 3)
        rw [Nat.add_zero] at f0
        obtain ⟨e, he⟩ : ∃ e, e = es.getD k e0 := ⟨_, rfl⟩
        rw [← he] at hce hnx hnb
        unfold put4 at hnx hnb
        obtain ⟨c0, c1, c2, c3⟩ := hce
        clear he hc hfr hfz H4 HLT H3 hto hbe
        go_wp2
        go_roundw
        case rel => exact ⟨k + 1, by omega, by go_num, hnx, hnb⟩
        case measure => simp [intOf]; omega
      · have hk : len = k := by omega
        subst hk
        clear H4 HLT
        go_wp2
        go_ret
        exact ⟨_, _, rfl, hto.out.arg H1.out h2 H3.out, hbe.out⟩
end Go.Proofs.Qxb6603491a
