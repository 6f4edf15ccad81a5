/-
  3: FnFindAgreesWithLinearSearch, walked whole.
-/
import Derived.Test.Qxb6603349aWalkG
import Derived.Test.Qxb6603349aWalkA
namespace Go.Proofs.Qxb6603349a
open Go.RowKit Go.Maps
set_option linter.unusedVariables false

/-- Ahead of 'find': w0 the world in which the call began. -/
structure Pre (w0 w : World) (a0 : Option Addr) (aA : Option Addr) (len bx : Nat) (m : Option Nat) (ss : List ByteArray) : Prop where
  rows : StrArg w a0 len ss
  rowsLt : ∀ x, a0 = some x → 0 < len → x.block < bx
  accs : AccArg w aA len ss
  accsLt : ∀ x, aA = some x → 0 < len → x.block < bx
  bxGe : w0.heap.size ≤ bx
  xcell : w.heap[bx]? = some (.cells #[.map m] 61 (0, 0))
  index : IndexOk w m ss
  below : Below w0.heap.size w0 w

theorem AccArg.grown {w w' : World} {a : Option Addr} {n : Nat} {ns : List ByteArray} {row : Option Nat} (h : AccArg w a n ns) (hg : w.grownBy w' row) (hne : ∀ x, a = some x → 0 < n → some x.block ≠ row) : AccArg w' a n ns := by
  have hlt := h.lt
  obtain ⟨h1, h2, h3⟩ := h
  refine ⟨h1, h2, fun hl => ?_⟩
  obtain ⟨b, off, rfl, hc⟩ := h3 hl
  exact ⟨b, off, rfl, fun k hk => (hc k hk).of_block (hg.block b (hlt _ rfl hl) (hne _ rfl hl))⟩

theorem Pre.mk_nil {w w1 w2 : World} {a0 aA : Option Addr} {capA len : Nat} {ss : List ByteArray} (hS : ∃ ws, Same w ws ∧ Cloned ws w1 a0 len ss) (hA : Accounted w1 w2 aA capA ss) (hi : Inc ss) :
    Pre w (w2.alloc (.cells #[.map none] 61)) a0 aA len w2.heap.size none ss := by
  obtain ⟨ws, hs, hcl⟩ := hS
  have hl := hcl.arg.1
  have hrow := hcl.arg.below hA.below hcl.arg.lt
  have hlt2 := hrow.lt
  have hacc := accArg_of_owns hA.owns hcl.arg.2.2.1
  rw [hl] at hacc
  have hlt3 := hacc.lt
  have hg := World.grownBy_alloc w2 (.cells #[.map none] 61) none
  have hb0 : Below w.heap.size w w1 := (hs.below _).trans (hcl.below.mono (by rw [hs.heap]; exact Nat.le_refl _))
  have hb1 := hb0.trans (hA.below.mono hb0.size)
  exact ⟨hrow.grown hg (fun _ _ _ => by simp), hlt2, hacc.grown hg (fun _ _ _ => by simp), hlt3, hb1.size, heap_alloc_new w2 _, hi, hb1.alloc hb1.size _⟩

/-- The copy of the index, k names laid in. -/
def CTo (w1 wr : World) (k : Nat) (ss : List ByteArray) : Prop := MapIs wr w1.heap.size k (idx (ss.take k)) ∧ Below w1.heap.size w1 wr ∧ w1.heap.size < wr.heap.size

theorem CTo.start (w1 : World) (ss : List ByteArray) : CTo w1 (w1.alloc (.map #[] 0)) 0 ss :=
  ⟨(MapIs.made w1).congr fun s => by simp [idx, posOf], (Below.refl _ _).alloc (Nat.le_refl _) _, by simp⟩

theorem CTo.next {w1 wr w' : World} {k : Nat} {ss : List ByteArray} (h : CTo w1 wr k ss) (hk : k < ss.length) (hnd : ss.Nodup) (hm : MapIs w' w1.heap.size (if (idx (ss.take k) (ss.getD k ByteArray.empty)).isSome then k else k + 1) (put (idx (ss.take k)) (ss.getD k ByteArray.empty) k)) (hg : wr.grownBy w' (some w1.heap.size)) : CTo w1 w' (k + 1) ss := by
  have hnm := not_mem_take hnd hk
  rw [idx_none hnm] at hm
  refine ⟨MapIs.congr (show MapIs w' w1.heap.size (k + 1) _ from hm) fun s => ?_, h.2.1.grown hg (Nat.le_of_lt h.2.2) (fun b hb => by cases hb; exact Nat.le_refl _), Nat.lt_of_lt_of_le h.2.2 hg.size⟩
  rw [take_snoc_getD hk, idx_snoc _ _ hnm, List.length_take, Nat.min_eq_left (by omega)]

theorem Pre.mk_map {w w1 wr w2 : World} {a0 aA : Option Addr} {capA len : Nat} {ss : List ByteArray} (hcl : Cloned w w1 a0 len ss) (hC : CTo w1 wr len ss) (hA : Accounted wr w2 aA capA ss) :
    Pre w (w2.alloc (.cells #[.map (some w1.heap.size)] 61)) a0 aA len w2.heap.size (some w1.heap.size) ss := by
  have hl := hcl.arg.1
  have hrow := (hcl.arg.below hC.2.1 hcl.arg.lt)
  have hrow2 := hrow.below hA.below hrow.lt
  have hlt2 := hrow2.lt
  have hacc := accArg_of_owns hA.owns hcl.arg.2.2.1
  rw [hl] at hacc
  have hlt3 := hacc.lt
  have hg := World.grownBy_alloc w2 (.cells #[.map (some w1.heap.size)] 61) none
  have hb0 : Below w.heap.size w wr := hcl.below.trans (hC.2.1.mono hcl.below.size)
  have hb1 := hb0.trans (hA.below.mono hb0.size)
  have hmap := (hC.1.below hA.below hC.2.2).kept hg (by simp)
  rw [← hl, List.take_length] at hmap
  exact ⟨hrow2.grown hg (fun _ _ _ => by simp), hlt2, hacc.grown hg (fun _ _ _ => by simp), hlt3, hb1.size, heap_alloc_new w2 _, hmap, hb1.alloc hb1.size _⟩

/-- Behind 'find'. -/
theorem Pre.found {w0 w w' : World} {a0 aA : Option Addr} {len bx : Nat} {m : Option Nat} {ss : List ByteArray} {s : ByteArray} (h : Pre w0 w a0 aA len bx m ss) (hF : Found w w' bx m ss s) : ∃ m', Pre w0 w' a0 aA len bx m' ss ∧ (m' = none ↔ m = none ∧ inOrd ss s) := by
  obtain ⟨m', hx, hi, hg, hiff, hm⟩ := hF
  have hbx := lt_of_block h.xcell
  refine ⟨m', ⟨h.rows.grown hg (fun x hx hl e => ?_), h.rowsLt, h.accs.grown hg (fun x hx hl e => ?_), h.accsLt, h.bxGe, hx, hi, h.below.grown hg (by have := h.bxGe; omega) (fun k hk => by cases hk; exact h.bxGe)⟩, hiff⟩
  · have := h.rowsLt x hx hl
    simp at e
    omega
  · have := h.accsLt x hx hl
    simp at e
    omega

theorem idx_lt {ss : List ByteArray} {s : ByteArray} {i : Int} (h : idx ss s = some i) : ∃ j : Nat, i = (j : Int) ∧ j < ss.length ∧ ss.getD j ByteArray.empty = s := by
  unfold idx at h
  rw [Option.map_eq_some_iff] at h
  obtain ⟨j, hj, rfl⟩ := h
  have := posOf_lt hj
  refine ⟨j, rfl, this.1, ?_⟩
  rw [List.getD_eq_getElem?_getD, this.2]
  rfl

theorem idx_ne {ss : List ByteArray} {s : ByteArray} (hnd : ss.Nodup) {j : Nat} (h : idx ss s = some (j : Int)) {k : Nat} (hk : k < ss.length) (hkj : k ≠ j) : ((ss.getD k ByteArray.empty).toList == s.toList) = false := by
  rw [toList_beq]
  simp only [decide_eq_false_iff_not]
  intro e
  have := posOf_of hnd (i := k) (s := s) (by rw [← e, List.getD_eq_getElem?_getD, List.getElem?_eq_getElem hk]; rfl)
  unfold idx at h
  rw [this] at h
  simp at h
  omega

theorem idx_ne' {ss : List ByteArray} {s : ByteArray} (h : idx ss s = none) {k : Nat} (hk : k < ss.length) : ((ss.getD k ByteArray.empty).toList == s.toList) = false := by
  rw [toList_beq]
  simp only [decide_eq_false_iff_not]
  intro e
  refine idx_none_mem h ?_
  rw [← e, List.getD_eq_getElem?_getD, List.getElem?_eq_getElem hk]
  exact List.getElem_mem _

set_option maxHeartbeats 2000000 in
set_option maxRecDepth 100000 in
theorem linearNil (a : Option Addr) (len cap : Nat) (ss : List ByteArray) (s : ByteArray) (w : World) (h : StrArg w a len ss) (hs : s.size ≤ maxLen) :
    Calls Try.prog 3 #[.slice a len cap, .map none, .string s] w fun e w' => e = .returned (.bool true) ∧ Below w.heap.size w w' := by
  have c8 := bytes8 a len cap ss w h
  have c9 := inc9 a len cap ss w h
  have hmn := fun (w : World) r => run_eql_map_nil (P := Try.prog) w 23 9 3 r Try.underlying23
  have hmn' := fun (w : World) r => run_neq_map_nil (P := Try.prog) w 23 9 3 r Try.underlying23
  have hml := fun (w : World) ty => Maps.len_nil (w := w) (k := 9) (e := 3) Try.underlying23 ty
  have hsz : s.size ≤ 9223372036854775807 := by unfold maxLen at hs; omega
  by_cases hlen : 65536 < len
  · clear h c8 c9 hs
    go_enter Try.func3, Try.ntmps3
    go_wp2
    go_ret
    exact ⟨rfl, Below.refl _ _⟩
  by_cases hss : 1048576 < s.size
  · clear h c8 c9 hs
    go_enter Try.func3, Try.ntmps3
    go_wp2
    go_ret
    exact ⟨rfl, Below.refl _ _⟩
  go_enter Try.func3, Try.ntmps3
  go_wp2_with fail
  refine c8.mono ?_
  rintro e w ⟨⟨t, rfl, ht0, ht1⟩, rfl⟩
  clear c8
  by_cases htb : 1048576 < t + s.size
  · clear c9 h hs
    go_wp2
    go_ret
    exact ⟨rfl, Below.refl _ _⟩
  go_wp2_with fail
  refine c9.mono ?_
  rintro e ws ⟨⟨b, rfl, hinc⟩, hsame⟩
  clear c9
  cases b with
  | false =>
    clear h hs hinc
    go_wp2
    go_ret
    exact ⟨rfl, hsame.below _⟩
  | true =>
    have hI : Hid (Inc ss) := hinc rfl
    clear hinc
    have hS := h.same hsame
    clear h
    go_wp2_with fail
    refine (clone11 a len cap ss ws hS (by omega)).mono ?_
    rintro e w1 ⟨a0, cap0, rfl, hcl⟩
    have hl := hS.1
    clear hS
    have c12 := accounts12 a0 len cap0 ss w1 hcl.arg (by omega)
    go_wp2_with fail
    refine c12.mono ?_
    rintro e w2 ⟨aA, capA, rfl, hacc⟩
    clear c12
    have hpre := Pre.mk_nil ⟨ws, hsame, hcl⟩ hacc hI.out
    clear hcl hacc hsame
    go_wp2_with fail
    refine (newIndex13 none w2).mono ?_
    rintro e w3 ⟨rfl, rfl⟩
    have hnd : ss.Nodup := hI.out.nodup
    have c14 := find14 w2.heap.size none aA len capA ss s _ hpre.xcell hpre.index hpre.accs hnd hs (by omega)
    go_wp2_with fail
    refine c14.mono ?_
    rintro e w4 ⟨he, hF⟩
    clear c14
    obtain ⟨m', hp, hm'⟩ := hpre.found hF
    have hM : Hid (m' = none ↔ inOrd ss s) := ⟨fun e => (hm'.1 e).2, fun e => hm'.2 ⟨rfl, e⟩⟩
    clear hF hpre hm'
    cases hi : idx ss s with
    | some i =>
      obtain ⟨j, rfl, hj, hjs⟩ := idx_lt hi
      have hfe : foundEnd ss s = .returned (.tuple #[.int .i64 j, .bool true]) := by simp [foundEnd, hi]
      rw [hfe] at he
      subst he
      have hne : ∀ k, k < len → k ≠ j → ((ss.getD k ByteArray.empty).toList == s.toList) = false := fun k hk hkj => idx_ne hnd hi (by omega) hkj
      clear hi hfe
      obtain ⟨_, _, _, hr4⟩ := hp.rows
      have hjl : j < len := by omega
      have heq : ((ss.getD j ByteArray.empty).toList == s.toList) = true := by rw [hjs]; simp
      have HL : Hid (ss.length = len) := hl
      clear hj hjs hl
      go_wp2
      go_loop [13, 14] (fun v i => ∃ k : Nat, k ≤ j ∧ i = .int .i64 k ∧ v = .int .i64 (-1)) (fun _ i => j + 1 - (intOf i).toNat)
      case atStart => exact ⟨0, Nat.zero_le _, rfl, rfl⟩
      case round =>
        obtain ⟨k, hk, rfl, rfl⟩ := hrel
        obtain ⟨gr, or_, ha0, hrc⟩ := hr4 (by omega)
        by_cases hkj : k = j
        · subst hkj
          have hrow := hrc k (by omega)
          have hl := HL.out
          generalize ss.getD k ByteArray.empty = r at hrow heq
          subst ha0
          clear hr4 hne
          have hlp : 0 < len := by omega
          have hl0 : ((len : Int) == 0) = false := by rw [beq_eq_false_iff_ne]; omega
          have hlc := hrc (len - 1) (by omega)
          clear hrc
          have hord : inOrd ss s ↔ Op.bytesLess s.toList (ss.getD (len - 1) ByteArray.empty).toList = false := by
            unfold inOrd blt
            rw [hl]
            constructor
            · rintro (h | h)
              · omega
              · exact h
            · exact Or.inr
          generalize ss.getD (len - 1) ByteArray.empty = lastN at hlc hord
          have hl1 : ((len : Int) - 1).toNat = len - 1 := by omega
          cases hless : Op.bytesLess s.toList lastN.toList with
          | false =>
            obtain rfl : m' = none := hM.out.2 (hord.2 hless)
            clear hord
            have hcx := cell_of_one hp.xcell
            have c16 := namesAre16 aA _ len capA cap0 ss w4 hp.accs hp.rows (by omega)
            have hbel := hp.below
            clear hp hnd
            go_wp2_with (first
              | (go_at_call 15; refine (places15 _ _ _ hcx).mono ?_; rintro e w5 ⟨rfl, rfl⟩)
              | (go_at_call 16; refine c16.mono ?_; rintro e w6 ⟨rfl, hb6⟩))
            go_ret
            exact ⟨rfl, hbel.trans (hb6.mono hbel.size)⟩
          | true =>
            obtain ⟨b', rfl⟩ : ∃ b', m' = some b' := Option.ne_none_iff_exists'.1 (fun hn => by have := hord.1 (hM.out.1 hn); rw [this] at hless; cases hless)
            clear hord
            have hcx := cell_of_one hp.xcell
            have c16 := namesAre16 aA _ len capA cap0 ss w4 hp.accs hp.rows (by omega)
            have hbel := hp.below
            have hmp : MapIs w4 b' ss.length (idx ss) := hp.index
            have c10 := exact10 b' ss.length (idx ss) _ len cap0 ss w4 hmp hp.rows (by omega)
            have hex : Hid (Exact ss.length (idx ss) len ss) := hl ▸ exact_idx hnd
            clear hp hmp hnd
            go_wp2_with (first
              | (go_at_call 15; refine (places15 _ _ _ hcx).mono ?_; rintro e w5 ⟨rfl, rfl⟩)
              | (go_at_call 10; refine c10.mono ?_; rintro e w7 ⟨⟨bb, rfl, hbb⟩, rfl⟩; obtain rfl : bb = true := hbb.2 hex.out)
              | (go_at_call 16; refine c16.mono ?_; rintro e w6 ⟨rfl, hb6⟩))
            go_ret
            exact ⟨rfl, hbel.trans (hb6.mono hbel.size)⟩
        · have hrow := hrc k (by omega)
          have heq' := hne k (by omega) hkj
          generalize ss.getD k ByteArray.empty = r at hrow heq'
          subst ha0
          clear hr4 hrc hne hp heq
          go_wp2
          go_round
          case rel => exact ⟨k + 1, by omega, by go_num, rfl⟩
          case measure => simp [intOf]; omega
    | none =>
      have hfe : foundEnd ss s = .returned (.tuple #[.int .i64 0, .bool false]) := by simp [foundEnd, hi]
      rw [hfe] at he
      subst he
      have hne : ∀ k, k < len → ((ss.getD k ByteArray.empty).toList == s.toList) = false := fun k hk => idx_ne' hi (by omega)
      clear hi hfe
      obtain ⟨_, _, _, hr4⟩ := hp.rows
      have HL : Hid (ss.length = len) := hl
      clear hl
      go_wp2
      go_loop [13, 14] (fun v i => ∃ k : Nat, k ≤ len ∧ i = .int .i64 k ∧ v = .int .i64 (-1)) (fun _ i => len - (intOf i).toNat)
      case atStart => exact ⟨0, Nat.zero_le _, rfl, rfl⟩
      case round =>
        obtain ⟨k, hk, rfl, rfl⟩ := hrel
        by_cases hkl : k < len
        · obtain ⟨gr, or_, ha0, hrc⟩ := hr4 (by omega)
          have hrow := hrc k (by omega)
          have heq' := hne k (by omega)
          generalize ss.getD k ByteArray.empty = r at hrow heq'
          subst ha0
          clear hr4 hrc hne hp
          go_wp2
          go_round
          case rel => exact ⟨k + 1, by omega, by go_num, rfl⟩
          case measure => simp [intOf]; omega
        · obtain rfl : k = len := by omega
          have hl := HL.out
          clear hne
          by_cases hz : k = 0
          · subst hz
            obtain rfl : m' = none := hM.out.2 (Or.inl hl)
            have hcx := cell_of_one hp.xcell
            have c16 := namesAre16 aA _ 0 capA cap0 ss w4 hp.accs hp.rows (by omega)
            have hbel := hp.below
            clear hp hnd
            go_wp2_with (first
              | (go_at_call 15; refine (places15 _ _ _ hcx).mono ?_; rintro e w5 ⟨rfl, rfl⟩)
              | (go_at_call 16; refine c16.mono ?_; rintro e w6 ⟨rfl, hb6⟩))
            go_ret
            exact ⟨rfl, hbel.trans (hb6.mono hbel.size)⟩
          · have hlp : 0 < k := by omega
            have hl0 : ((k : Int) == 0) = false := by rw [beq_eq_false_iff_ne]; omega
            obtain ⟨gr, or_, ha0, hrc⟩ := hr4 (by omega)
            subst ha0
            clear hr4
            have hlc := hrc (k - 1) (by omega)
            clear hrc
            have hord : inOrd ss s ↔ Op.bytesLess s.toList (ss.getD (k - 1) ByteArray.empty).toList = false := by
              unfold inOrd blt
              rw [hl]
              constructor
              · rintro (h | h)
                · omega
                · exact h
              · exact Or.inr
            generalize ss.getD (k - 1) ByteArray.empty = lastN at hlc hord
            have hl1 : ((k : Int) - 1).toNat = k - 1 := by omega
            cases hless : Op.bytesLess s.toList lastN.toList with
            | false =>
              obtain rfl : m' = none := hM.out.2 (hord.2 hless)
              clear hord
              have hcx := cell_of_one hp.xcell
              have c16 := namesAre16 aA _ k capA cap0 ss w4 hp.accs hp.rows (by omega)
              have hbel := hp.below
              clear hp hnd
              go_wp2_with (first
                | (go_at_call 15; refine (places15 _ _ _ hcx).mono ?_; rintro e w5 ⟨rfl, rfl⟩)
                | (go_at_call 16; refine c16.mono ?_; rintro e w6 ⟨rfl, hb6⟩))
              go_ret
              exact ⟨rfl, hbel.trans (hb6.mono hbel.size)⟩
            | true =>
              obtain ⟨b', rfl⟩ : ∃ b', m' = some b' := Option.ne_none_iff_exists'.1 (fun hn => by have := hord.1 (hM.out.1 hn); rw [this] at hless; cases hless)
              clear hord
              have hcx := cell_of_one hp.xcell
              have c16 := namesAre16 aA _ k capA cap0 ss w4 hp.accs hp.rows (by omega)
              have hbel := hp.below
              have hmp : MapIs w4 b' ss.length (idx ss) := hp.index
              have c10 := exact10 b' ss.length (idx ss) _ k cap0 ss w4 hmp hp.rows (by omega)
              have hex : Hid (Exact ss.length (idx ss) k ss) := hl ▸ exact_idx hnd
              clear hp hmp hnd
              go_wp2_with (first
                | (go_at_call 15; refine (places15 _ _ _ hcx).mono ?_; rintro e w5 ⟨rfl, rfl⟩)
                | (go_at_call 10; refine c10.mono ?_; rintro e w7 ⟨⟨bb, rfl, hbb⟩, rfl⟩; obtain rfl : bb = true := hbb.2 hex.out)
                | (go_at_call 16; refine c16.mono ?_; rintro e w6 ⟨rfl, hb6⟩))
              go_ret
              exact ⟨rfl, hbel.trans (hb6.mono hbel.size)⟩

set_option maxHeartbeats 2000000 in
set_option maxRecDepth 100000 in
theorem linearMap (a : Option Addr) (len cap : Nat) (ss : List ByteArray) (bp np : Nat) (f : ByteArray → Option Int) (s : ByteArray) (w : World) (h : StrArg w a len ss) (hmp : MapIs w bp np f) (hs : s.size ≤ maxLen) :
    Calls Try.prog 3 #[.slice a len cap, .map (some bp), .string s] w fun e w' => e = .returned (.bool true) ∧ Below w.heap.size w w' := by
  have c8 := bytes8 a len cap ss w h
  have hmn := fun (w : World) r => run_eql_map_nil (P := Try.prog) w 23 9 3 r Try.underlying23
  have hmn' := fun (w : World) r => run_neq_map_nil (P := Try.prog) w 23 9 3 r Try.underlying23
  have hml := fun ty => hmp.len ty
  have hsz : s.size ≤ 9223372036854775807 := by unfold maxLen at hs; omega
  have hmm : ∀ (w : World) (n : Int), (Instr.makeMap 23 (some (.int .i64 n))).run Try.prog w = .ok (.map (some w.heap.size)) (w.alloc (.map #[] 0)) := fun w n => by kernel_rfl
  by_cases hlen : 65536 < len
  · clear h c8 hs hmp hmm
    go_enter Try.func3, Try.ntmps3
    go_wp2
    go_ret
    exact ⟨rfl, Below.refl _ _⟩
  by_cases hnl : 65536 < np
  · clear h c8 hs hmp hmm
    go_enter Try.func3, Try.ntmps3
    go_wp2
    go_ret
    exact ⟨rfl, Below.refl _ _⟩
  by_cases hss : 1048576 < s.size
  · clear h c8 hs hmp hmm
    go_enter Try.func3, Try.ntmps3
    go_wp2
    go_ret
    exact ⟨rfl, Below.refl _ _⟩
  have c10a := exact10 bp np f a len cap ss w hmp h (by omega)
  go_enter Try.func3, Try.ntmps3
  go_wp2_with fail
  refine c8.mono ?_
  rintro e w ⟨⟨t, rfl, ht0, ht1⟩, rfl⟩
  clear c8
  by_cases htb : 1048576 < t + 24 * np + s.size
  · clear c10a h hs hmm
    go_wp2
    go_ret
    exact ⟨rfl, Below.refl _ _⟩
  go_wp2_with fail
  refine c10a.mono ?_
  rintro e w ⟨⟨b, rfl, hinc⟩, rfl⟩
  clear c10a
  cases b with
  | false =>
    clear h hs hinc hmp
    go_wp2
    go_ret
    exact ⟨rfl, Below.refl _ _⟩
  | true =>
    have hnd : ss.Nodup := exact_nodup (hinc.1 rfl) h.1
    clear hinc
    go_wp2_with fail
    refine (clone11 a len cap ss w h (by omega)).mono ?_
    rintro e w1 ⟨a0, cap0, rfl, hcl⟩
    have hl := h.1
    have hmem := h.mem
    have hlt1 := hcl.arg.lt
    clear h hmp hml
    obtain ⟨_, _, _, hr4⟩ := hcl.arg
    have HL : Hid (ss.length = len) := hl
    clear hl
    go_wp2
    go_loopw [8] (fun i wr => ∃ k : Nat, k ≤ len ∧ i = .int .i64 k ∧ CTo w1 wr k ss) (fun i _ => len - (intOf i).toNat)
    case atStart => exact ⟨0, Nat.zero_le _, rfl, CTo.start w1 ss⟩
    case round =>
      obtain ⟨k, hk, rfl, hto⟩ := hrel
      by_cases hkl : k < len
      · obtain ⟨gr, or_, ha0, hrc⟩ := hr4 (by omega)
        have hgl : gr < w1.heap.size := hlt1 _ ha0 (by omega)
        have hrow := (hto.2.1.cell (p := ⟨gr, or_ + k, none⟩) hgl).trans (hrc k hkl)
        have hrm := hmem k
        have hmap := hto.1
        have hnext := fun w' => hto.next (w' := w') (by rw [HL.out]; exact hkl) hnd
        subst ha0
        clear hr4 hrc hmem hcl hto hnd hlt1
        generalize ss.getD k ByteArray.empty = r at hrow hrm hnext
        go_wp2_with (at_mapUpdate; refine wpList_put _ rfl _ _ _ rfl w1.heap.size k (idx (ss.take k)) r k rfl rfl rfl hmap hrm (WalkArith.wf_i64 (by omega)) (by unfold maxLen; omega) ?_; intro w5 hm5 hg5)
        have hto5 := hnext w5 hm5 hg5
        go_roundw
        case rel => exact ⟨k + 1, by omega, by go_num, hto5⟩
        case measure => simp [intOf]; omega
      · obtain rfl : len = k := by omega
        have hrowr := hcl.arg.below hto.2.1 hcl.arg.lt
        have c12 := accounts12 a0 len cap0 ss wr hrowr (by omega)
        clear hr4 hmem hlt1 hrowr
        go_wp2_with fail
        refine c12.mono ?_
        rintro e w2 ⟨aA, capA, rfl, hacc⟩
        clear c12
        have hpre := Pre.mk_map hcl hto hacc
        clear hcl hto hacc
        go_wp2_with fail
        refine (newIndex13 (some w1.heap.size) w2).mono ?_
        rintro e w3 ⟨rfl, rfl⟩
        have c14 := find14 w2.heap.size (some w1.heap.size) aA len capA ss s _ hpre.xcell hpre.index hpre.accs hnd hs (by omega)
        go_wp2_with fail
        refine c14.mono ?_
        rintro e w4 ⟨he, hF⟩
        clear c14
        obtain ⟨m', hp, hm'⟩ := hpre.found hF
        have hM : Hid (m' ≠ none) := fun e => by cases (hm'.1 e).1
        clear hF hpre hm'
        have hl := HL.out
        clear HL
        cases hi : idx ss s with
        | some i =>
          obtain ⟨j, rfl, hj, hjs⟩ := idx_lt hi
          have hfe : foundEnd ss s = .returned (.tuple #[.int .i64 j, .bool true]) := by simp [foundEnd, hi]
          rw [hfe] at he
          subst he
          have hne : ∀ k, k < len → k ≠ j → ((ss.getD k ByteArray.empty).toList == s.toList) = false := fun k hk hkj => idx_ne hnd hi (by omega) hkj
          clear hi hfe
          obtain ⟨_, _, _, hr4⟩ := hp.rows
          have hjl : j < len := by omega
          have heq : ((ss.getD j ByteArray.empty).toList == s.toList) = true := by rw [hjs]; simp
          have HL : Hid (ss.length = len) := hl
          clear hj hjs hl
          go_wp2
          go_loop [13, 14] (fun v i => ∃ k : Nat, k ≤ j ∧ i = .int .i64 k ∧ v = .int .i64 (-1)) (fun _ i => j + 1 - (intOf i).toNat)
          case atStart => exact ⟨0, Nat.zero_le _, rfl, rfl⟩
          case round =>
            obtain ⟨k, hk, rfl, rfl⟩ := hrel
            obtain ⟨gr, or_, ha0, hrc⟩ := hr4 (by omega)
            by_cases hkj : k = j
            · subst hkj
              have hrow := hrc k (by omega)
              have hl := HL.out
              generalize ss.getD k ByteArray.empty = r at hrow heq
              subst ha0
              clear hr4 hne
              clear hrc
              obtain ⟨b', rfl⟩ : ∃ b', m' = some b' := Option.ne_none_iff_exists'.1 hM.out
              have hcx := cell_of_one hp.xcell
              have c16 := namesAre16 aA _ len capA cap0 ss w4 hp.accs hp.rows (by omega)
              have hbel := hp.below
              have hmp : MapIs w4 b' ss.length (idx ss) := hp.index
              have c10 := exact10 b' ss.length (idx ss) _ len cap0 ss w4 hmp hp.rows (by omega)
              have hex : Hid (Exact ss.length (idx ss) len ss) := hl ▸ exact_idx hnd
              clear hp hmp hnd
              go_wp2_with (first
                | (go_at_call 15; refine (places15 _ _ _ hcx).mono ?_; rintro e w5 ⟨rfl, rfl⟩)
                | (go_at_call 10; refine c10.mono ?_; rintro e w7 ⟨⟨bb, rfl, hbb⟩, rfl⟩; obtain rfl : bb = true := hbb.2 hex.out)
                | (go_at_call 16; refine c16.mono ?_; rintro e w6 ⟨rfl, hb6⟩))
              go_ret
              exact ⟨rfl, hbel.trans (hb6.mono hbel.size)⟩
            · have hrow := hrc k (by omega)
              have heq' := hne k (by omega) hkj
              generalize ss.getD k ByteArray.empty = r at hrow heq'
              subst ha0
              clear hr4 hrc hne hp heq
              go_wp2
              go_round
              case rel => exact ⟨k + 1, by omega, by go_num, rfl⟩
              case measure => simp [intOf]; omega
        | none =>
          have hfe : foundEnd ss s = .returned (.tuple #[.int .i64 0, .bool false]) := by simp [foundEnd, hi]
          rw [hfe] at he
          subst he
          have hne : ∀ k, k < len → ((ss.getD k ByteArray.empty).toList == s.toList) = false := fun k hk => idx_ne' hi (by omega)
          clear hi hfe
          obtain ⟨_, _, _, hr4⟩ := hp.rows
          have HL : Hid (ss.length = len) := hl
          clear hl
          go_wp2
          go_loop [13, 14] (fun v i => ∃ k : Nat, k ≤ len ∧ i = .int .i64 k ∧ v = .int .i64 (-1)) (fun _ i => len - (intOf i).toNat)
          case atStart => exact ⟨0, Nat.zero_le _, rfl, rfl⟩
          case round =>
            obtain ⟨k, hk, rfl, rfl⟩ := hrel
            by_cases hkl : k < len
            · obtain ⟨gr, or_, ha0, hrc⟩ := hr4 (by omega)
              have hrow := hrc k (by omega)
              have heq' := hne k (by omega)
              generalize ss.getD k ByteArray.empty = r at hrow heq'
              subst ha0
              clear hr4 hrc hne hp
              go_wp2
              go_round
              case rel => exact ⟨k + 1, by omega, by go_num, rfl⟩
              case measure => simp [intOf]; omega
            · obtain rfl : k = len := by omega
              have hl := HL.out
              clear hne
              obtain ⟨b', rfl⟩ : ∃ b', m' = some b' := Option.ne_none_iff_exists'.1 hM.out
              have hcx := cell_of_one hp.xcell
              have c16 := namesAre16 aA _ k capA cap0 ss w4 hp.accs hp.rows (by omega)
              have hbel := hp.below
              have hmp : MapIs w4 b' ss.length (idx ss) := hp.index
              have c10 := exact10 b' ss.length (idx ss) _ k cap0 ss w4 hmp hp.rows (by omega)
              have hex : Hid (Exact ss.length (idx ss) k ss) := hl ▸ exact_idx hnd
              clear hp hmp hnd
              go_wp2_with (first
                | (go_at_call 15; refine (places15 _ _ _ hcx).mono ?_; rintro e w5 ⟨rfl, rfl⟩)
                | (go_at_call 10; refine c10.mono ?_; rintro e w7 ⟨⟨bb, rfl, hbb⟩, rfl⟩; obtain rfl : bb = true := hbb.2 hex.out)
                | (go_at_call 16; refine c16.mono ?_; rintro e w6 ⟨rfl, hb6⟩))
              go_ret
              exact ⟨rfl, hbel.trans (hb6.mono hbel.size)⟩
end Go.Proofs.Qxb6603349a
