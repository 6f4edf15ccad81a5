/-
  The row of FnFindAgreesWithLinearSearch.
-/
import Derived.Test.Qxb6603349aOpen
import Derived.Test.Qxb6603349aLinear
namespace Go.Proofs.Qxb6603349a.fnFindAgreesWithLinearSearch
open Go.ChangeShapes Go.WideShapes Go.ChangeAt Go.RowKit Go.WideMaps
open Go.ChangeMaps (open_string shut_string)
set_option linter.unusedVariables false

theorem open_mapArg {H : Type} {enc : TypeId × Value → H} {w : World} {m : Option Nat} {d : DataW H} {ps : List MemPlace} (h : DataW.Trod enc Try.prog w 0 (fun _ => true) true 23 (.map m) d ps) : ∀ b, m = some b → ∃ n f, MapIs w b n f := by
  rintro b rfl
  obtain ⟨fuel, hf⟩ := h
  rcases Go.WideElems.open_map Try.underlying23 hf with ⟨hcs, _⟩ | ⟨b', es, clock, n, rfl, hcs, hb, _, F, hx⟩
  · simp [Value.cells] at hcs
  · simp [Value.cells] at hcs
    subst hcs
    have hown := World.ownsMap_of_fit (R := plainElem Try.prog 3) hb F (fun x _ z hz => elemAt_plainElem_int Try.underlying3 hz)
    obtain ⟨f, hf⟩ := MapIs.of_owns hown (by simp [Maps.size, length_read])
    exact ⟨_, f, hf⟩

set_option maxRecDepth 100000 in
theorem lifted (os : Os) (started : os.Started) (H : Type) (enc : TypeId × Value → H) :
    ReturnsInHanded {} Try.checked os 3 .any (Rows.fnFindAgreesWithLinearSearchSpec.pre6 enc Try.prog Try.f3 Rows.fnFindAgreesWithLinearSearchRow.domain false) (Rows.fnFindAgreesWithLinearSearchSpec.post enc Try.prog Try.f3 false true false false) := by
  refine returnsInHanded_of_change (C := Try.checked) own started (by kernel_rfl) Try.func3
    (ChangeSpec.witness6 (enc := enc) (C := Try.checked) false ⟨#[], #[.slice none 0 0, .map none, .string ByteArray.empty], []⟩ 8 (by kernel_rfl) (by kernel_rfl) (by kernel_rfl) (by kernel_rfl)) ?_
  intro W base args ds gs before hval0 hW hcnd _
  have hval : ∀ (j : Nat) t v, Try.f3.params[j]? = some t → args[j]? = some v → Value.okWide Try.prog W .any base t v := hval0
  have hW' := hW
  obtain ⟨p, q, hA0, hV, rfl, hfz, hnd⟩ := hW
  have hA : DataW.TrodAll enc Try.prog W 0 (fun _ => true) true Try.f3.params.toList args.toList ds p := hA0
  rw [Try.params3] at hA hval
  obtain ⟨v0, vs0, d0, ds0, p0, q0, hargs, rfl, rfl, h0, r0⟩ := trodAll_cons hA
  obtain ⟨v1, vs1, d1, ds1, p1, q1, rfl, rfl, rfl, h1, r1⟩ := trodAll_cons r0
  obtain ⟨v2, vs2, d2, ds2, p2, q2, rfl, rfl, rfl, h2, r2⟩ := trodAll_cons r1
  obtain ⟨rfl, rfl, rfl⟩ := trodAll_nil r2
  obtain rfl : args = #[v0, v1, v2] := by cases args; simp_all
  obtain ⟨rfl, rfl⟩ := trodVars_none hV
  obtain ⟨a0, len0, cap0, rfl⟩ := okWide_slice Try.underlying22 (hval 0 22 v0 rfl rfl)
  have k0 := h0
  have lt0 : ∀ x ∈ p0, x.block < W.heap.size := by obtain ⟨m, hm⟩ := k0; exact DataW.trod_lt m _ _ _ hm
  obtain ⟨ss0, w0⟩ := open_strArg h0
  obtain ⟨m1, rfl⟩ := okWide_map Try.underlying23 (hval 1 23 v1 rfl rfl)
  have k1 := h1
  have lt1 : ∀ x ∈ p1, x.block < W.heap.size := by obtain ⟨m, hm⟩ := k1; exact DataW.trod_lt m _ _ _ hm
  have w1 := open_mapArg h1
  obtain ⟨s2, rfl, rfl, rfl, hs2⟩ := open_string Try.underlying9 (hval 2 9 v2 rfl rfl) h2
  clear hA0 hval0
  have walk : Calls Try.prog 3 #[.slice a0 len0 cap0, .map m1, .string s2] W fun e w' => e = .returned (.bool true) ∧ Below W.heap.size W w' := by
    cases m1 with
    | none => exact linearNil a0 len0 cap0 ss0 s2 W w0 hs2
    | some b =>
      obtain ⟨n, f, hm⟩ := w1 b rfl
      exact linearMap a0 len0 cap0 ss0 b n f s2 W w0 hm hs2
  refine walk.mono fun e W' ⟨he, bel⟩ => ?_
  subst he
  exact ⟨_, rfl, _, _, _, [], _, [], hW', trodAll_mk1 (shut_bool Try.underlying4 _), (trodAll_cons_mk (Below.trod laidOut (by kernel_rfl) (of_decide_eq_true (by kernel_rfl)) k0 bel lt0) (trodAll_cons_mk (Below.trod laidOut (by kernel_rfl) (of_decide_eq_true (by kernel_rfl)) k1 bel lt1) (trodAll_cons_mk (shut_string Try.underlying9 hs2) trodAll_mk0))), rfl, bel.frame _, fun h => by cases h⟩

theorem over : Rows.fnFindAgreesWithLinearSearchRow.holds Try.pinned (OpenSpec.ofChange Rows.fnFindAgreesWithLinearSearchSpec) :=
  OpenClaim.holds_of_wide 3 Try.f3 rfl rfl rfl rfl rfl rfl rfl ⟨rfl, rfl, rfl, rfl, rfl⟩ rfl rfl rfl rfl rfl (by kernel_rfl) Try.func3 (by kernel_rfl)
    (of_decide_eq_true (by kernel_rfl)) (by unfold Func.isWrapper; first | (rw [if_pos (by decide +kernel)]; kernel_rfl) | (rw [if_neg (by decide +kernel)]; exact ⟨rfl, rfl⟩))
    (fun os started H enc _ => lifted os started H enc)

/-- THE STATEMENT. -/
theorem proved : Rows.FnFindAgreesWithLinearSearchSaid := over
end Go.Proofs.Qxb6603349a.fnFindAgreesWithLinearSearch
