/-
  A slice of entries that came in, opened.
-/
import Derived.Test.Qxb6603491aOrder
import Derived.Deep.SlicePairs
import Derived.OpenShut
namespace Go.Proofs.Qxb6603491a
open Go.ChangeShapes Go.WideShapes Go.RowKit Go.Deep
set_option linter.unusedVariables false

theorem Try.cells36 : Try.prog.cellsOf 36 = 4 := by kernel_rfl
theorem Try.cells33 : Try.prog.cellsOf 33 = 1 := by kernel_rfl
theorem Try.cells34 : Try.prog.cellsOf 34 = 1 := by kernel_rfl

section
variable {H : Type} {enc : TypeId × Value → H} {w : World} {base : Nat} {spare : Nat → Bool} {held : Bool}

theorem wf_u64 {n : Int} (h : (Lit.int .u64 n).wf = true) : 0 ≤ n ∧ n ≤ 18446744073709551615 := by
  have hw : IntKind.u64.min ≤ n ∧ n ≤ IntKind.u64.max := by simpa [Lit.wf] using h
  exact hw
theorem wf_u32 {n : Int} (h : (Lit.int .u32 n).wf = true) : 0 ≤ n ∧ n ≤ 4294967295 := by
  have hw : IntKind.u32.min ≤ n ∧ n ≤ IntKind.u32.max := by simpa [Lit.wf] using h
  exact hw
theorem wf_u8 {n : Int} (h : (Lit.int .u8 n).wf = true) : 0 ≤ n ∧ n ≤ 255 := by
  have hw : IntKind.u8.min ≤ n ∧ n ≤ IntKind.u8.max := by simpa [Lit.wf] using h
  exact hw

/-- The four cells of an element. -/
theorem open_ent {a : Addr} {n : Nat} {cs' : List Value} {y : DataW H × List MemPlace} (h1 : w.cells? base a 4 = some cs') (h2 : DataW.trod enc Try.prog w base spare held n 36 cs' = some y) :
    ∃ q : Int × Int × Int × Int, (w.cell? a = some (.int .u64 q.1) ∧ w.cell? (a.add 1) = some (.int .u32 q.2.1) ∧ w.cell? (a.add 2) = some (.int .u32 q.2.2.1) ∧ w.cell? (a.add 3) = some (.int .u32 q.2.2.2)) ∧
      (Ent.mk q.1 q.2.1 q.2.2.1 q.2.2.2).ok := by
  obtain ⟨_, hlen, hcell⟩ := World.cells?_some h1
  obtain ⟨xs, k, hk, hxy, _, hxl, hf⟩ := DataW.trod_struct Try.underlying36 h2
  match xs, hxl, cs', hlen with
  | [y0, y1, y2, y3], _, [v0, v1, v2, v3], _ =>
    have g0 := hf 0 _ rfl
    have g1 := hf 1 _ rfl
    have g2 := hf 2 _ rfl
    have g3 := hf 3 _ rfl
    simp [Try.cells33, Try.cells34] at g0 g1 g2 g3
    obtain ⟨n0, p0, _, f0⟩ := DataW.trod_int Try.underlying33 g0
    obtain ⟨n1, p1, _, f1⟩ := DataW.trod_int Try.underlying34 g1
    obtain ⟨n2, p2, _, f2⟩ := DataW.trod_int Try.underlying34 g2
    obtain ⟨n3, p3, _, f3⟩ := DataW.trod_int Try.underlying34 g3
    simp only [List.cons.injEq, and_true] at p0 p1 p2 p3
    subst p0 p1 p2 p3
    have e0 := hcell 0 (by omega)
    have e1 := hcell 1 (by omega)
    have e2 := hcell 2 (by omega)
    have e3 := hcell 3 (by omega)
    exact ⟨(n0, n1, n2, n3), ⟨by simpa [Addr.add] using e0, by simpa using e1, by simpa using e2, by simpa using e3⟩, wf_u64 f0, wf_u32 f1, wf_u32 f2, wf_u32 f3⟩

theorem open_ents {a : Option Addr} {len cap fuel : Nat} {x : DataW H × List MemPlace} (h : DataW.trod enc Try.prog w base spare held fuel 22 (Value.slice a len cap).cells.toList = some x) : ∃ es, EArg w a len es := by
  rcases open_slice Try.underlying22 h with ⟨hcs, _⟩ | ⟨a', len', cap', m, n, D, Pl, hcs, hb, hl, hm, hmm, _, hx⟩
  · simp [Value.cells] at hcs
    obtain ⟨rfl, rfl, rfl⟩ := hcs
    exact ⟨[], rfl, Nat.zero_le _, fun e he => absurd he (by simp), fun h => absurd h (Nat.lt_irrefl 0)⟩
  · simp [Value.cells] at hcs
    obtain ⟨rfl, rfl, rfl⟩ := hcs
    have hlm : len ≤ m := by rw [hmm]; split <;> omega
    rw [Try.cells36] at hx
    have each : ∀ i, i < len → ∃ q : Int × Int × Int × Int, (w.cell? (a'.add (i * 4)) = some (.int .u64 q.1) ∧ w.cell? ((a'.add (i * 4)).add 1) = some (.int .u32 q.2.1) ∧ w.cell? ((a'.add (i * 4)).add 2) = some (.int .u32 q.2.2.1) ∧ w.cell? ((a'.add (i * 4)).add 3) = some (.int .u32 q.2.2.2)) ∧
        (Ent.mk q.1 q.2.1 q.2.2.1 q.2.2.2).ok := fun i hi => by
      obtain ⟨cs', h1, h2⟩ := hx i (by omega)
      exact open_ent h1 h2
    obtain ⟨q, hq⟩ := choose_lt each
    refine ⟨(List.range len).map fun i => ⟨(q i).1, (q i).2.1, (q i).2.2.1, (q i).2.2.2⟩, by simp, by omega, fun e he => ?_, fun hp => ?_⟩
    · obtain ⟨i, hi, rfl⟩ := List.mem_map.1 he
      exact (hq i (List.mem_range.1 hi)).2
    · obtain ⟨b, off, spot⟩ := a'
      have hspot : spot = none := by
        have := (hq 0 hp).1.1
        simpa [Addr.add] using World.cell?_spot this
      subst hspot
      refine ⟨b, off, rfl, fun k hk => ?_⟩
      obtain ⟨⟨c0, c1, c2, c3⟩, _⟩ := hq k hk
      rw [add_add] at c1 c2 c3
      rw [add_plain] at c0 c1 c2 c3
      have e : ((List.range len).map fun i => (⟨(q i).1, (q i).2.1, (q i).2.2.1, (q i).2.2.2⟩ : Ent)).getD k e0 = ⟨(q k).1, (q k).2.1, (q k).2.2.1, (q k).2.2.2⟩ := by
        rw [List.getD_eq_getElem?_getD, List.getElem?_map, List.getElem?_range hk]
        rfl
      rw [e]
      exact ⟨c0, by rw [Nat.add_assoc]; exact c1, by rw [Nat.add_assoc]; exact c2, by rw [Nat.add_assoc]; exact c3⟩
end
end Go.Proofs.Qxb6603491a
