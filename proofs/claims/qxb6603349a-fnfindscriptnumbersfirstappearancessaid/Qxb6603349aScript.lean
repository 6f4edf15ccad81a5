/-
  4: FnFindScriptNumbersFirstAppearances, walked whole.
-/
import Derived.Test.Qxb6603349aStateOps
import Derived.Test.Qxb6603349aWalkA
import Derived.Test.Qxb6603349aWalkB
namespace Go.Proofs.Qxb6603349a
open Go.RowKit Go.Maps
set_option linter.unusedVariables false

/-- What the loop knows at a round's head, k rows read: the names so far are ds (n of them); b: they came in order. -/
def Inv (w0 wr : World) (a0 : Option Addr) (L : Nat) (rs : List ByteArray) (bx bf : Nat) (k n : Nat) (aO : Option Addr) (capO : Nat) (aA : Option Addr) (capA : Nat) (b : Bool) : Prop :=
  ∃ ds m, St w0 wr a0 L rs bx (bx + 1) m ds bf ds aO capO ds aA capA ds ∧ ds.length = n ∧ ds.Nodup ∧ n ≤ k ∧ (∀ s ∈ ds, s.size ≤ maxLen) ∧ (m = none ↔ b = true)

theorem inv_step {w0 wr : World} {a0 : Option Addr} {L : Nat} {rs : List ByteArray} {bx bf : Nat} {m : Option Nat} {ds : List ByteArray} {aO : Option Addr} {capO : Nat} {aA : Option Addr} {capA : Nat} {k n : Nat} {b : Bool} {r : ByteArray}
    (h : St w0 wr a0 L rs bx (bx + 1) m (ds ++ [r]) bf (ds ++ [r]) aO capO (ds ++ [r]) aA capA (ds ++ [r])) (hdl : ds.length = n) (hnd : ds.Nodup) (hnr : r ∉ ds) (hnk : n ≤ k) (hsz : ∀ s ∈ ds, s.size ≤ maxLen) (hrk : r.size ≤ maxLen) (hb : m = none ↔ b = true) :
    Inv w0 wr a0 L rs bx bf (k + 1) (n + 1) aO capO aA capA b := by
  refine ⟨ds ++ [r], m, h, by simp [hdl], ?_, by omega, ?_, hb⟩
  · rw [List.nodup_append]
    refine ⟨hnd, by simp, fun x hx y hy e => ?_⟩
    simp at hy
    subst hy
    subst e
    exact hnr hx
  · intro s hs
    rw [List.mem_append] at hs
    rcases hs with hs | hs
    · exact hsz s hs
    · simp at hs
      subst hs
      exact hrk

theorem Inv.start {w w1 : World} {a0 : Option Addr} {len : Nat} {ss : List ByteArray} (hcl : Cloned w w1 a0 len ss) :
    Inv w ((((w1.alloc (.cells #[.map none] 61)).alloc (.cells #[] 42)).alloc (.map #[] 0)).alloc (.cells #[] 9)) a0 len ss w1.heap.size (w1.heap.size + 1 + 1) 0 0 (some ⟨w1.heap.size + 1 + 1 + 1, 0, none⟩) 0 (some ⟨w1.heap.size + 1, 0, none⟩) 0 true := by
  refine ⟨[], none, ?_, rfl, List.nodup_nil, Nat.le_refl _, by simp, by simp⟩
  have g1 := World.grownBy_alloc w1 (.cells #[.map none] 61) none
  have e1 : (w1.alloc (.cells #[.map none] 61)).heap.size = w1.heap.size + 1 := by simp
  generalize hW1 : w1.alloc (.cells #[.map none] 61) = W1 at g1 e1 ⊢
  have g2 := World.grownBy_alloc W1 (.cells #[] 42) none
  have e2 : (W1.alloc (.cells #[] 42)).heap.size = w1.heap.size + 1 + 1 := by simp [e1]
  have o2 : (W1.alloc (.cells #[] 42)).ownsRow (w1.heap.size + 1) 42 5 (.slice (some ⟨w1.heap.size + 1, 0, none⟩) 0 0) 0 [] := by
    have := World.ownsRow_made (base := w1.heap.size + 1) (e := 42) (size := 5) W1 #[] 0 (by omega) (by unfold maxLen; omega) (by simp)
    rwa [e1] at this
  have x1 : W1.heap[w1.heap.size]? = some (.cells #[.map none] 61 (0, 0)) := by rw [← hW1]; exact heap_alloc_new w1 _
  generalize hW2 : W1.alloc (.cells #[] 42) = W2 at g2 e2 o2 ⊢
  have g3 := World.grownBy_alloc W2 (.map #[] 0) none
  have e3 : (W2.alloc (.map #[] 0)).heap.size = w1.heap.size + 1 + 1 + 1 := by simp [e2]
  have m3 := MapIs.made W2
  rw [e2] at m3
  generalize hW3 : W2.alloc (.map #[] 0) = W3 at g3 e3 m3 ⊢
  have g4 := World.grownBy_alloc W3 (.cells #[] 9) none
  have e4 : (W3.alloc (.cells #[] 9)).heap.size = w1.heap.size + 1 + 1 + 1 + 1 := by simp [e3]
  have o4 : (W3.alloc (.cells #[] 9)).ownsRow (w1.heap.size + 1) 9 1 (.slice (some ⟨w1.heap.size + 1 + 1 + 1, 0, none⟩) 0 0) 0 [] := by
    have := World.ownsRow_made (base := w1.heap.size + 1) (e := 9) (size := 1) W3 #[] 0 (by omega) (by unfold maxLen; omega) (by simp)
    rwa [e3] at this
  generalize hW4 : W3.alloc (.cells #[] 9) = W4 at g4 e4 o4 ⊢
  have hlt := hcl.arg.lt
  have hb := hcl.below
  refine ⟨(((hcl.arg.grown g1 (fun _ _ _ => by simp)).grown g2 (fun _ _ _ => by simp)).grown g3 (fun _ _ _ => by simp)).grown g4 (fun _ _ _ => by simp), hlt, hb.size, by omega, by omega, ?_, List.Pairwise.nil, fun b hb => (by cases hb), by simp, by omega, ?_, o4, ?_, ?_⟩
  · rw [g4.block _ (by omega) (by simp), g3.block _ (by omega) (by simp), g2.block _ (by omega) (by simp)]
    exact x1
  · exact (m3.kept g4 (by simp)).congr fun s => by simp [idx, posOf]
  · exact (o2.kept g3 (by cases hv : (Value.slice (some ⟨w1.heap.size + 1, 0, none⟩) 0 0).ownBlock <;> simp)).kept g4 (by cases hv : (Value.slice (some ⟨w1.heap.size + 1, 0, none⟩) 0 0).ownBlock <;> simp)
  · have hs := hb.size
    exact (((hb.grown g1 hs (fun k hk => by cases hk)).grown g2 (by omega) (fun k hk => by cases hk)).grown g3 (by omega) (fun k hk => by cases hk)).grown g4 (by omega) (fun k hk => by cases hk)

set_option maxHeartbeats 1000000 in
set_option maxRecDepth 100000 in
theorem script4 (a : Option Addr) (len cap : Nat) (ss : List ByteArray) (w : World) (h : StrArg w a len ss) :
    Calls Try.prog 4 #[.slice a len cap] w fun e w' => e = .returned (.bool true) ∧ Below w.heap.size w w' := by
  have c17 := bytes17 a len cap ss w h
  have c8 := bytes8 a len cap ss w h
  have hm0 : ∀ w, (Instr.makeSlice 28 (.int .i64 0) (.int .i64 0)).run Try.prog w = .ok (.slice (some ⟨w.heap.size, 0, none⟩) 0 0) (w.alloc (.cells #[] 42)) := fun _ => by kernel_rfl
  have hm1 : ∀ w, (Instr.makeSlice 22 (.int .i64 0) (.int .i64 0)).run Try.prog w = .ok (.slice (some ⟨w.heap.size, 0, none⟩) 0 0) (w.alloc (.cells #[] 9)) := fun _ => by kernel_rfl
  have hmm := @run_makeMap Try.prog
  have hmn := fun (w : World) r => run_eql_map_nil (P := Try.prog) w 23 9 3 r Try.underlying23
  have hmn' := fun (w : World) r => run_neq_map_nil (P := Try.prog) w 23 9 3 r Try.underlying23
  go_enter Try.func4, Try.ntmps4
  go_wp2_with fail
  refine c17.mono ?_
  rintro e w' ⟨⟨b, rfl⟩, rfl⟩
  clear c17
  cases b with
  | false =>
    go_wp2
    go_ret
    exact ⟨rfl, Below.refl _ _⟩
  | true =>
    by_cases hlen : 65536 < len
    · go_wp2
      go_ret
      exact ⟨rfl, Below.refl _ _⟩
    go_wp2_with fail
    refine c8.mono ?_
    rintro e w ⟨⟨t, rfl, ht0, ht1⟩, rfl⟩
    clear c8
    by_cases htb : 1048576 < t
    · go_wp2
      go_ret
      exact ⟨rfl, Below.refl _ _⟩
    go_wp2_with fail
    refine (clone11 a len cap ss w h (by omega)).mono ?_
    rintro e w1 ⟨a0, cap0, rfl, hcl⟩
    go_wp2_with fail
    refine (newIndex13 none w1).mono ?_
    rintro e w2 ⟨rfl, rfl⟩
    go_wp2
    go_loopw [4, 6, 7, 8] (fun va vo vi i wr => ∃ (k n : Nat) (aO aA : Option Addr) (capO capA : Nat) (b : Bool), k ≤ len ∧ i = .int .i64 k ∧ va = .slice aA n capA ∧ vo = .slice aO n capO ∧ vi = .bool b ∧ Inv w wr a0 len ss w1.heap.size (w1.heap.size + 1 + 1) k n aO capO aA capA b) (fun _ _ _ i _ => len - (intOf i).toNat)
    case atStart => exact ⟨0, 0, _, _, 0, 0, true, Nat.zero_le _, rfl, rfl, rfl, rfl, Inv.start hcl⟩
    case round =>
      obtain ⟨k, n, aO, aA, capO, capA, b, hk, rfl, rfl, rfl, rfl, hinv⟩ := hrel
      clear h hcl
      by_cases hkl : k < len
      · obtain ⟨ds, m, hst, hdl, hnd, hnk, hsz, hmb⟩ := hinv
        have hrk := hst.rows.mem k
        obtain ⟨_, _, _, hr4⟩ := hst.rows
        obtain ⟨gr, or_, ha0, hrc⟩ := hr4 (by omega)
        have hrow := hrc k hkl
        clear hr4 hrc
        generalize ss.getD k ByteArray.empty = r at hrow hrk
        have hA : AccArg wr aA n ds := by rw [← hdl]; exact accArg_of_owns hst.accs hsz
        have hO : StrArg wr aO n ds := by rw [← hdl]; exact strArg_of_owns hst.order (by unfold maxLen; omega) hsz
        have hfind := find14 w1.heap.size m aA n capA ds r wr hst.xcell hst.index hA hnd hrk (by omega)
        subst ha0
        cases b with
        | true =>
          obtain rfl : m = none := hmb.2 rfl
          clear hmb
          cases n with
          | zero =>
            have hio : inOrd ds r := Or.inl hdl
            clear hA hO
            go_wp2_with fail
            refine hfind.mono ?_
            rintro e w3 ⟨he, hF⟩
            obtain ⟨m', hst', hm'⟩ := hst.found hF
            obtain rfl : m' = none := hm'.2 ⟨rfl, hio⟩
            have hfirst := hst'.first
            have hcx := cell_of_one hst'.xcell
            clear hF hst hfind hm' hrow
            cases hi : idx ds r with
            | some i =>
              have hfe : foundEnd ds r = .returned (.tuple #[.int .i64 i, .bool true]) := by simp [foundEnd, hi]
              rw [hfe] at he
              subst he
              have hi1 : (idx ds r).getD 0 = i := by rw [hi]; rfl
              have hi2 : (idx ds r).isSome = true := by rw [hi]; rfl
              have hnext : Inv w w3 (some ⟨gr, or_, none⟩) len ss w1.heap.size (w1.heap.size + 1 + 1) (k + 1) 0 aO capO aA capA true := ⟨ds, _, hst', hdl, hnd, by omega, hsz, by simp⟩
              clear hi hfe hst' hsz hnd
              go_wp2_with (first
                | (at_lookup; refine wpList_look' _ rfl _ _ rfl (w1.heap.size + 1 + 1) ds.length (idx ds) r i true rfl rfl hfirst hrk hi1 hi2 ?_)
                | (go_at_call 15; refine (places15 _ _ _ hcx).mono ?_; rintro e w4 ⟨rfl, rfl⟩))
              go_roundw
              case rel => exact ⟨k + 1, 0, aO, aA, capO, capA, true, by omega, by go_num, rfl, rfl, rfl, hnext⟩
              case measure => simp [intOf]; omega
            | none =>
              have hfe : foundEnd ds r = .returned (.tuple #[.int .i64 0, .bool false]) := by simp [foundEnd, hi]
              rw [hfe] at he
              subst he
              have hi1 : (idx ds r).getD 0 = 0 := by rw [hi]; rfl
              have hi2 : (idx ds r).isSome = false := by rw [hi]; rfl
              have hnr : r ∉ ds := idx_none_mem hi
              clear hi hfe
              have tok1 : True := trivial
              have tok2 : True := trivial
              go_wp2_with (first
                | (at_lookup; refine wpList_look' _ rfl _ _ rfl (w1.heap.size + 1 + 1) ds.length (idx ds) r 0 false rfl rfl hfirst hrk hi1 hi2 ?_)
                | (at_mapUpdate; have _t := tok1; refine wpList_putFirst rfl _ _ _ rfl r _ rfl rfl rfl (by rw [hdl]; omega) hst' hnr hrk (by omega) ?_; intro w4 hst4; clear tok1)
                | (at_builtin; refine wpList_appOrder rfl _ _ rfl r ⟨w4.heap.size, 0, none⟩ _ rfl (by omega) rfl (cell_new1 _ _) (hst4.alloc _) (by omega) ?_; intro aO' capO' w5 hst5)
                | (go_at_call 18; refine (newAcc18' _ _).mono ?_; rintro e w6 ⟨rfl, rfl⟩)
                | (at_builtin; refine wpList_appAccs rfl _ _ rfl r (w5.heap.size + 1) 0 _ rfl (by omega) rfl (acc_new _ _ _ (by simp)) ((hst5.alloc _).alloc _) (by omega) ?_; intro aA' capA' w7 hst7; have hcx7 := cell_of_one hst7.xcell)
                | (go_at_call 15; have _t := tok2; refine (places15 _ _ _ hcx7).mono ?_; rintro e w8 ⟨rfl, rfl⟩; clear tok2)
                | (go_at_call 15; refine (places15 _ _ _ hcx7).mono ?_; rintro e w9 ⟨rfl, rfl⟩))
              have hst9 := hst7.skipIndex hnr hio
              go_roundw
              case rel => exact ⟨k + 1, 0 + 1, aO', aA', capO', capA', true, by omega, by go_num, rfl, rfl, rfl, inv_step hst9 hdl hnd hnr hnk hsz hrk (by simp)⟩
              case measure => simp [intOf]; omega
          | succ q =>
            have hlast := hO.2.2.2 (by omega)
            obtain ⟨gO, oO, haO, hOc⟩ := hlast
            have hlc := hOc q (by omega)
            have hord : inOrd ds r ↔ Op.bytesLess r.toList (ds.getD q ByteArray.empty).toList = false := by
              unfold inOrd blt
              rw [hdl]
              simp
            generalize ds.getD q ByteArray.empty = lastN at hlc hord
            subst haO
            clear hA hO hOc
            cases hless : Op.bytesLess r.toList lastN.toList with
            | false =>
              have hio : inOrd ds r := hord.2 hless
              clear hord
              go_wp2_with fail
              clear hlc hless
              refine hfind.mono ?_
              rintro e w3 ⟨he, hF⟩
              obtain ⟨m', hst', hm'⟩ := hst.found hF
              obtain rfl : m' = none := hm'.2 ⟨rfl, hio⟩
              have hfirst := hst'.first
              have hcx := cell_of_one hst'.xcell
              clear hF hst hfind hm' hrow
              cases hi : idx ds r with
              | some i =>
                have hfe : foundEnd ds r = .returned (.tuple #[.int .i64 i, .bool true]) := by simp [foundEnd, hi]
                rw [hfe] at he
                subst he
                have hi1 : (idx ds r).getD 0 = i := by rw [hi]; rfl
                have hi2 : (idx ds r).isSome = true := by rw [hi]; rfl
                have hnext : Inv w w3 (some ⟨gr, or_, none⟩) len ss w1.heap.size (w1.heap.size + 1 + 1) (k + 1) (q + 1) (some ⟨gO, oO, none⟩) capO aA capA true := ⟨ds, _, hst', hdl, hnd, by omega, hsz, by simp⟩
                clear hi hfe hst' hsz hnd
                go_wp2_with (first
                  | (at_lookup; refine wpList_look' _ rfl _ _ rfl (w1.heap.size + 1 + 1) ds.length (idx ds) r i true rfl rfl hfirst hrk hi1 hi2 ?_)
                  | (go_at_call 15; refine (places15 _ _ _ hcx).mono ?_; rintro e w4 ⟨rfl, rfl⟩))
                go_roundw
                case rel => exact ⟨k + 1, (q + 1), _, aA, capO, capA, true, by omega, by go_num, rfl, rfl, rfl, hnext⟩
                case measure => simp [intOf]; omega
              | none =>
                have hfe : foundEnd ds r = .returned (.tuple #[.int .i64 0, .bool false]) := by simp [foundEnd, hi]
                rw [hfe] at he
                subst he
                have hi1 : (idx ds r).getD 0 = 0 := by rw [hi]; rfl
                have hi2 : (idx ds r).isSome = false := by rw [hi]; rfl
                have hnr : r ∉ ds := idx_none_mem hi
                clear hi hfe
                have tok1 : True := trivial
                have tok2 : True := trivial
                go_wp2_with (first
                  | (at_lookup; refine wpList_look' _ rfl _ _ rfl (w1.heap.size + 1 + 1) ds.length (idx ds) r 0 false rfl rfl hfirst hrk hi1 hi2 ?_)
                  | (at_mapUpdate; have _t := tok1; refine wpList_putFirst rfl _ _ _ rfl r _ rfl rfl rfl (by rw [hdl]; omega) hst' hnr hrk (by omega) ?_; intro w4 hst4; clear tok1)
                  | (at_builtin; refine wpList_appOrder rfl _ _ rfl r ⟨w4.heap.size, 0, none⟩ _ rfl (by omega) rfl (cell_new1 _ _) (hst4.alloc _) (by omega) ?_; intro aO' capO' w5 hst5)
                  | (go_at_call 18; refine (newAcc18' _ _).mono ?_; rintro e w6 ⟨rfl, rfl⟩)
                  | (at_builtin; refine wpList_appAccs rfl _ _ rfl r (w5.heap.size + 1) 0 _ rfl (by omega) rfl (acc_new _ _ _ (by simp)) ((hst5.alloc _).alloc _) (by omega) ?_; intro aA' capA' w7 hst7; have hcx7 := cell_of_one hst7.xcell)
                  | (go_at_call 15; have _t := tok2; refine (places15 _ _ _ hcx7).mono ?_; rintro e w8 ⟨rfl, rfl⟩; clear tok2)
                  | (go_at_call 15; refine (places15 _ _ _ hcx7).mono ?_; rintro e w9 ⟨rfl, rfl⟩))
                have hst9 := hst7.skipIndex hnr hio
                go_roundw
                case rel => exact ⟨k + 1, (q + 1) + 1, aO', aA', capO', capA', true, by omega, by go_num, rfl, rfl, rfl, inv_step hst9 hdl hnd hnr hnk hsz hrk (by simp)⟩
                case measure => simp [intOf]; omega
            | true =>
              have hno : ¬ inOrd ds r := fun h => by rw [hord.1 h] at hless; cases hless
              clear hord
              go_wp2_with fail
              clear hlc hless
              refine hfind.mono ?_
              rintro e w3 ⟨he, hF⟩
              obtain ⟨m', hst', hm'⟩ := hst.found hF
              obtain ⟨b', rfl⟩ : ∃ b', m' = some b' := Option.ne_none_iff_exists'.1 (fun hn => hno (hm'.1 hn).2)
              have hfirst := hst'.first
              have hcx := cell_of_one hst'.xcell
              clear hF hst hfind hm' hrow
              cases hi : idx ds r with
              | some i =>
                have hfe : foundEnd ds r = .returned (.tuple #[.int .i64 i, .bool true]) := by simp [foundEnd, hi]
                rw [hfe] at he
                subst he
                have hi1 : (idx ds r).getD 0 = i := by rw [hi]; rfl
                have hi2 : (idx ds r).isSome = true := by rw [hi]; rfl
                have hnext : Inv w w3 (some ⟨gr, or_, none⟩) len ss w1.heap.size (w1.heap.size + 1 + 1) (k + 1) (q + 1) (some ⟨gO, oO, none⟩) capO aA capA false := ⟨ds, _, hst', hdl, hnd, by omega, hsz, by simp⟩
                clear hi hfe hst' hsz hnd
                go_wp2_with (first
                  | (at_lookup; refine wpList_look' _ rfl _ _ rfl (w1.heap.size + 1 + 1) ds.length (idx ds) r i true rfl rfl hfirst hrk hi1 hi2 ?_)
                  | (go_at_call 15; refine (places15 _ _ _ hcx).mono ?_; rintro e w4 ⟨rfl, rfl⟩))
                go_roundw
                case rel => exact ⟨k + 1, (q + 1), _, aA, capO, capA, false, by omega, by go_num, rfl, rfl, rfl, hnext⟩
                case measure => simp [intOf]; omega
              | none =>
                have hfe : foundEnd ds r = .returned (.tuple #[.int .i64 0, .bool false]) := by simp [foundEnd, hi]
                rw [hfe] at he
                subst he
                have hi1 : (idx ds r).getD 0 = 0 := by rw [hi]; rfl
                have hi2 : (idx ds r).isSome = false := by rw [hi]; rfl
                have hnr : r ∉ ds := idx_none_mem hi
                clear hi hfe
                have tok1 : True := trivial
                have tok2 : True := trivial
                go_wp2_with (first
                  | (at_lookup; refine wpList_look' _ rfl _ _ rfl (w1.heap.size + 1 + 1) ds.length (idx ds) r 0 false rfl rfl hfirst hrk hi1 hi2 ?_)
                  | (at_mapUpdate; have _t := tok1; refine wpList_putFirst rfl _ _ _ rfl r _ rfl rfl rfl (by rw [hdl]; omega) hst' hnr hrk (by omega) ?_; intro w4 hst4; clear tok1)
                  | (at_builtin; refine wpList_appOrder rfl _ _ rfl r ⟨w4.heap.size, 0, none⟩ _ rfl (by omega) rfl (cell_new1 _ _) (hst4.alloc _) (by omega) ?_; intro aO' capO' w5 hst5)
                  | (go_at_call 18; refine (newAcc18' _ _).mono ?_; rintro e w6 ⟨rfl, rfl⟩)
                  | (at_builtin; refine wpList_appAccs rfl _ _ rfl r (w5.heap.size + 1) 0 _ rfl (by omega) rfl (acc_new _ _ _ (by simp)) ((hst5.alloc _).alloc _) (by omega) ?_; intro aA' capA' w7 hst7; have hcx7 := cell_of_one hst7.xcell)
                  | (go_at_call 15; have _t := tok2; refine (places15 _ _ _ hcx7).mono ?_; rintro e w8 ⟨rfl, rfl⟩; clear tok2)
                  | (at_mapUpdate; refine wpList_putIndex rfl _ _ _ rfl r _ rfl rfl rfl (by rw [hdl]; omega) hst7 hnr hrk (by omega) ?_; intro w10 hst10; have hcx10 := cell_of_one hst10.xcell)
                  | (go_at_call 15; refine (places15 _ _ _ hcx10).mono ?_; rintro e w9 ⟨rfl, rfl⟩))
                go_roundw
                case rel => exact ⟨k + 1, (q + 1) + 1, aO', aA', capO', capA', false, by omega, by go_num, rfl, rfl, rfl, inv_step hst10 hdl hnd hnr hnk hsz hrk (by simp)⟩
                case measure => simp [intOf]; omega
        | false =>
          have hmnn : m ≠ none := fun e => by simpa using hmb.1 e
          clear hmb
          have hnone : ¬ (m = none ∧ inOrd ds r) := fun h => hmnn h.1
          cases n with
          | zero =>
            clear hA hO
            go_wp2_with fail
            refine hfind.mono ?_
            rintro e w3 ⟨he, hF⟩
            obtain ⟨m', hst', hm'⟩ := hst.found hF
            obtain ⟨b', rfl⟩ : ∃ b', m' = some b' := Option.ne_none_iff_exists'.1 (fun hn => hnone (hm'.1 hn))
            have hfirst := hst'.first
            have hcx := cell_of_one hst'.xcell
            clear hF hst hfind hm' hrow
            cases hi : idx ds r with
            | some i =>
              have hfe : foundEnd ds r = .returned (.tuple #[.int .i64 i, .bool true]) := by simp [foundEnd, hi]
              rw [hfe] at he
              subst he
              have hi1 : (idx ds r).getD 0 = i := by rw [hi]; rfl
              have hi2 : (idx ds r).isSome = true := by rw [hi]; rfl
              have hnext : Inv w w3 (some ⟨gr, or_, none⟩) len ss w1.heap.size (w1.heap.size + 1 + 1) (k + 1) 0 aO capO aA capA false := ⟨ds, _, hst', hdl, hnd, by omega, hsz, by simp⟩
              clear hi hfe hst' hsz hnd
              go_wp2_with (first
                | (at_lookup; refine wpList_look' _ rfl _ _ rfl (w1.heap.size + 1 + 1) ds.length (idx ds) r i true rfl rfl hfirst hrk hi1 hi2 ?_)
                | (go_at_call 15; refine (places15 _ _ _ hcx).mono ?_; rintro e w4 ⟨rfl, rfl⟩))
              go_roundw
              case rel => exact ⟨k + 1, 0, aO, aA, capO, capA, false, by omega, by go_num, rfl, rfl, rfl, hnext⟩
              case measure => simp [intOf]; omega
            | none =>
              have hfe : foundEnd ds r = .returned (.tuple #[.int .i64 0, .bool false]) := by simp [foundEnd, hi]
              rw [hfe] at he
              subst he
              have hi1 : (idx ds r).getD 0 = 0 := by rw [hi]; rfl
              have hi2 : (idx ds r).isSome = false := by rw [hi]; rfl
              have hnr : r ∉ ds := idx_none_mem hi
              clear hi hfe
              have tok1 : True := trivial
              have tok2 : True := trivial
              go_wp2_with (first
                | (at_lookup; refine wpList_look' _ rfl _ _ rfl (w1.heap.size + 1 + 1) ds.length (idx ds) r 0 false rfl rfl hfirst hrk hi1 hi2 ?_)
                | (at_mapUpdate; have _t := tok1; refine wpList_putFirst rfl _ _ _ rfl r _ rfl rfl rfl (by rw [hdl]; omega) hst' hnr hrk (by omega) ?_; intro w4 hst4; clear tok1)
                | (at_builtin; refine wpList_appOrder rfl _ _ rfl r ⟨w4.heap.size, 0, none⟩ _ rfl (by omega) rfl (cell_new1 _ _) (hst4.alloc _) (by omega) ?_; intro aO' capO' w5 hst5)
                | (go_at_call 18; refine (newAcc18' _ _).mono ?_; rintro e w6 ⟨rfl, rfl⟩)
                | (at_builtin; refine wpList_appAccs rfl _ _ rfl r (w5.heap.size + 1) 0 _ rfl (by omega) rfl (acc_new _ _ _ (by simp)) ((hst5.alloc _).alloc _) (by omega) ?_; intro aA' capA' w7 hst7; have hcx7 := cell_of_one hst7.xcell)
                | (go_at_call 15; have _t := tok2; refine (places15 _ _ _ hcx7).mono ?_; rintro e w8 ⟨rfl, rfl⟩; clear tok2)
                | (at_mapUpdate; refine wpList_putIndex rfl _ _ _ rfl r _ rfl rfl rfl (by rw [hdl]; omega) hst7 hnr hrk (by omega) ?_; intro w10 hst10; have hcx10 := cell_of_one hst10.xcell)
                | (go_at_call 15; refine (places15 _ _ _ hcx10).mono ?_; rintro e w9 ⟨rfl, rfl⟩))
              go_roundw
              case rel => exact ⟨k + 1, 0 + 1, aO', aA', capO', capA', false, by omega, by go_num, rfl, rfl, rfl, inv_step hst10 hdl hnd hnr hnk hsz hrk (by simp)⟩
              case measure => simp [intOf]; omega
          | succ q =>
            have hlast := hO.2.2.2 (by omega)
            obtain ⟨gO, oO, haO, hOc⟩ := hlast
            have hlc := hOc q (by omega)
            have hord : inOrd ds r ↔ Op.bytesLess r.toList (ds.getD q ByteArray.empty).toList = false := by
              unfold inOrd blt
              rw [hdl]
              simp
            generalize ds.getD q ByteArray.empty = lastN at hlc hord
            subst haO
            clear hA hO hOc
            cases hless : Op.bytesLess r.toList lastN.toList with
            | false =>
              clear hord
              go_wp2_with fail
              clear hlc hless
              refine hfind.mono ?_
              rintro e w3 ⟨he, hF⟩
              obtain ⟨m', hst', hm'⟩ := hst.found hF
              obtain ⟨b', rfl⟩ : ∃ b', m' = some b' := Option.ne_none_iff_exists'.1 (fun hn => hnone (hm'.1 hn))
              have hfirst := hst'.first
              have hcx := cell_of_one hst'.xcell
              clear hF hst hfind hm' hrow
              cases hi : idx ds r with
              | some i =>
                have hfe : foundEnd ds r = .returned (.tuple #[.int .i64 i, .bool true]) := by simp [foundEnd, hi]
                rw [hfe] at he
                subst he
                have hi1 : (idx ds r).getD 0 = i := by rw [hi]; rfl
                have hi2 : (idx ds r).isSome = true := by rw [hi]; rfl
                have hnext : Inv w w3 (some ⟨gr, or_, none⟩) len ss w1.heap.size (w1.heap.size + 1 + 1) (k + 1) (q + 1) (some ⟨gO, oO, none⟩) capO aA capA false := ⟨ds, _, hst', hdl, hnd, by omega, hsz, by simp⟩
                clear hi hfe hst' hsz hnd
                go_wp2_with (first
                  | (at_lookup; refine wpList_look' _ rfl _ _ rfl (w1.heap.size + 1 + 1) ds.length (idx ds) r i true rfl rfl hfirst hrk hi1 hi2 ?_)
                  | (go_at_call 15; refine (places15 _ _ _ hcx).mono ?_; rintro e w4 ⟨rfl, rfl⟩))
                go_roundw
                case rel => exact ⟨k + 1, (q + 1), _, aA, capO, capA, false, by omega, by go_num, rfl, rfl, rfl, hnext⟩
                case measure => simp [intOf]; omega
              | none =>
                have hfe : foundEnd ds r = .returned (.tuple #[.int .i64 0, .bool false]) := by simp [foundEnd, hi]
                rw [hfe] at he
                subst he
                have hi1 : (idx ds r).getD 0 = 0 := by rw [hi]; rfl
                have hi2 : (idx ds r).isSome = false := by rw [hi]; rfl
                have hnr : r ∉ ds := idx_none_mem hi
                clear hi hfe
                have tok1 : True := trivial
                have tok2 : True := trivial
                go_wp2_with (first
                  | (at_lookup; refine wpList_look' _ rfl _ _ rfl (w1.heap.size + 1 + 1) ds.length (idx ds) r 0 false rfl rfl hfirst hrk hi1 hi2 ?_)
                  | (at_mapUpdate; have _t := tok1; refine wpList_putFirst rfl _ _ _ rfl r _ rfl rfl rfl (by rw [hdl]; omega) hst' hnr hrk (by omega) ?_; intro w4 hst4; clear tok1)
                  | (at_builtin; refine wpList_appOrder rfl _ _ rfl r ⟨w4.heap.size, 0, none⟩ _ rfl (by omega) rfl (cell_new1 _ _) (hst4.alloc _) (by omega) ?_; intro aO' capO' w5 hst5)
                  | (go_at_call 18; refine (newAcc18' _ _).mono ?_; rintro e w6 ⟨rfl, rfl⟩)
                  | (at_builtin; refine wpList_appAccs rfl _ _ rfl r (w5.heap.size + 1) 0 _ rfl (by omega) rfl (acc_new _ _ _ (by simp)) ((hst5.alloc _).alloc _) (by omega) ?_; intro aA' capA' w7 hst7; have hcx7 := cell_of_one hst7.xcell)
                  | (go_at_call 15; have _t := tok2; refine (places15 _ _ _ hcx7).mono ?_; rintro e w8 ⟨rfl, rfl⟩; clear tok2)
                  | (at_mapUpdate; refine wpList_putIndex rfl _ _ _ rfl r _ rfl rfl rfl (by rw [hdl]; omega) hst7 hnr hrk (by omega) ?_; intro w10 hst10; have hcx10 := cell_of_one hst10.xcell)
                  | (go_at_call 15; refine (places15 _ _ _ hcx10).mono ?_; rintro e w9 ⟨rfl, rfl⟩))
                go_roundw
                case rel => exact ⟨k + 1, (q + 1) + 1, aO', aA', capO', capA', false, by omega, by go_num, rfl, rfl, rfl, inv_step hst10 hdl hnd hnr hnk hsz hrk (by simp)⟩
                case measure => simp [intOf]; omega
            | true =>
              clear hord
              go_wp2_with fail
              clear hlc hless
              refine hfind.mono ?_
              rintro e w3 ⟨he, hF⟩
              obtain ⟨m', hst', hm'⟩ := hst.found hF
              obtain ⟨b', rfl⟩ : ∃ b', m' = some b' := Option.ne_none_iff_exists'.1 (fun hn => hnone (hm'.1 hn))
              have hfirst := hst'.first
              have hcx := cell_of_one hst'.xcell
              clear hF hst hfind hm' hrow
              cases hi : idx ds r with
              | some i =>
                have hfe : foundEnd ds r = .returned (.tuple #[.int .i64 i, .bool true]) := by simp [foundEnd, hi]
                rw [hfe] at he
                subst he
                have hi1 : (idx ds r).getD 0 = i := by rw [hi]; rfl
                have hi2 : (idx ds r).isSome = true := by rw [hi]; rfl
                have hnext : Inv w w3 (some ⟨gr, or_, none⟩) len ss w1.heap.size (w1.heap.size + 1 + 1) (k + 1) (q + 1) (some ⟨gO, oO, none⟩) capO aA capA false := ⟨ds, _, hst', hdl, hnd, by omega, hsz, by simp⟩
                clear hi hfe hst' hsz hnd
                go_wp2_with (first
                  | (at_lookup; refine wpList_look' _ rfl _ _ rfl (w1.heap.size + 1 + 1) ds.length (idx ds) r i true rfl rfl hfirst hrk hi1 hi2 ?_)
                  | (go_at_call 15; refine (places15 _ _ _ hcx).mono ?_; rintro e w4 ⟨rfl, rfl⟩))
                go_roundw
                case rel => exact ⟨k + 1, (q + 1), _, aA, capO, capA, false, by omega, by go_num, rfl, rfl, rfl, hnext⟩
                case measure => simp [intOf]; omega
              | none =>
                have hfe : foundEnd ds r = .returned (.tuple #[.int .i64 0, .bool false]) := by simp [foundEnd, hi]
                rw [hfe] at he
                subst he
                have hi1 : (idx ds r).getD 0 = 0 := by rw [hi]; rfl
                have hi2 : (idx ds r).isSome = false := by rw [hi]; rfl
                have hnr : r ∉ ds := idx_none_mem hi
                clear hi hfe
                have tok1 : True := trivial
                have tok2 : True := trivial
                go_wp2_with (first
                  | (at_lookup; refine wpList_look' _ rfl _ _ rfl (w1.heap.size + 1 + 1) ds.length (idx ds) r 0 false rfl rfl hfirst hrk hi1 hi2 ?_)
                  | (at_mapUpdate; have _t := tok1; refine wpList_putFirst rfl _ _ _ rfl r _ rfl rfl rfl (by rw [hdl]; omega) hst' hnr hrk (by omega) ?_; intro w4 hst4; clear tok1)
                  | (at_builtin; refine wpList_appOrder rfl _ _ rfl r ⟨w4.heap.size, 0, none⟩ _ rfl (by omega) rfl (cell_new1 _ _) (hst4.alloc _) (by omega) ?_; intro aO' capO' w5 hst5)
                  | (go_at_call 18; refine (newAcc18' _ _).mono ?_; rintro e w6 ⟨rfl, rfl⟩)
                  | (at_builtin; refine wpList_appAccs rfl _ _ rfl r (w5.heap.size + 1) 0 _ rfl (by omega) rfl (acc_new _ _ _ (by simp)) ((hst5.alloc _).alloc _) (by omega) ?_; intro aA' capA' w7 hst7; have hcx7 := cell_of_one hst7.xcell)
                  | (go_at_call 15; have _t := tok2; refine (places15 _ _ _ hcx7).mono ?_; rintro e w8 ⟨rfl, rfl⟩; clear tok2)
                  | (at_mapUpdate; refine wpList_putIndex rfl _ _ _ rfl r _ rfl rfl rfl (by rw [hdl]; omega) hst7 hnr hrk (by omega) ?_; intro w10 hst10; have hcx10 := cell_of_one hst10.xcell)
                  | (go_at_call 15; refine (places15 _ _ _ hcx10).mono ?_; rintro e w9 ⟨rfl, rfl⟩))
                go_roundw
                case rel => exact ⟨k + 1, (q + 1) + 1, aO', aA', capO', capA', false, by omega, by go_num, rfl, rfl, rfl, inv_step hst10 hdl hnd hnr hnk hsz hrk (by simp)⟩
                case measure => simp [intOf]; omega
      · obtain ⟨ds, m, hst, hdl, hnd, hnk, hsz, hmb⟩ := hinv
        have hA : AccArg wr aA n ds := by rw [← hdl]; exact accArg_of_owns hst.accs hsz
        have hO : StrArg wr aO n ds := by rw [← hdl]; exact strArg_of_owns hst.order (by unfold maxLen; omega) hsz
        have c16 := namesAre16 aA aO n capA capO ds wr hA hO (by omega)
        have hbel := hst.below
        clear hA hO hst hnd hsz
        go_wp2_with (go_at_call 16; refine c16.mono ?_; rintro e w3 ⟨rfl, hb3⟩)
        go_ret
        exact ⟨rfl, hbel.trans (hb3.mono hbel.size)⟩
end Go.Proofs.Qxb6603349a
