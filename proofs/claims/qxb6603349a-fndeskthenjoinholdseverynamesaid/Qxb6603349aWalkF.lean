/-
  33, 14: (*accountIndex).find and its shim.
-/
import Derived.Test.Qxb6603349aWalkC
namespace Go.Proofs.Qxb6603349a
open Go.RowKit Go.Maps
set_option linter.unusedVariables false

def idx (ns : List ByteArray) : ByteArray → Option Int := fun s => (posOf ns s).map Int.ofNat

/-- The index in its documented state: nil while the names are in increasing order, or else the exact place of every name. -/
def IndexOk (w : World) (m : Option Nat) (ns : List ByteArray) : Prop :=
  match m with
  | none => Inc ns
  | some b => MapIs w b ns.length (idx ns)

/-- s does not lie below the last name. -/
def inOrd (ns : List ByteArray) (s : ByteArray) : Prop := ns.length = 0 ∨ blt s (ns.getD (ns.length - 1) ByteArray.empty) = false

/-- What 'find' leaves. -/
def Found (w w' : World) (bx : Nat) (m : Option Nat) (ns : List ByteArray) (s : ByteArray) : Prop :=
  ∃ m', w'.heap[bx]? = some (.cells #[.map m'] 61 (0, 0)) ∧ IndexOk w' m' ns ∧ w.grownBy w' (some bx) ∧ (m' = none ↔ m = none ∧ inOrd ns s) ∧ (m' = m ∨ m' = some w.heap.size)

def foundEnd (ns : List ByteArray) (s : ByteArray) : Ending := .returned (.tuple #[.int .i64 ((idx ns s).getD 0), .bool (idx ns s).isSome])

/-- What the loop of 'find' that fills the index knows after k rounds. -/
def IdxTo (w wr : World) (bx k : Nat) (ns : List ByteArray) : Prop :=
  MapIs wr w.heap.size k (idx (ns.take k)) ∧ wr.heap[bx]? = some (.cells #[.map (some w.heap.size)] 61 (0, 0)) ∧ w.grownBy wr (some bx)

theorem IdxTo.start {w : World} {bx : Nat} (hx : w.heap[bx]? = some (.cells #[.map none] 61 (0, 0))) (ns : List ByteArray) :
    IdxTo w ((w.setCell ⟨bx, 0, none⟩ (.map (some w.heap.size))).alloc (.map #[] 0)) bx 0 ns := by
  have hbx : bx < w.heap.size := lt_of_block hx
  have hsz : (w.setCell ⟨bx, 0, none⟩ (.map (some w.heap.size))).heap.size = w.heap.size := by simp [World.setCell]
  refine ⟨?_, ?_, ?_⟩
  · have := MapIs.made (w.setCell ⟨bx, 0, none⟩ (.map (some w.heap.size)))
    rw [hsz] at this
    exact this.congr fun s => by simp [idx, posOf]
  · rw [Below.heap_alloc _ _ _ (by rw [hsz]; exact hbx)]
    exact one_setCell hx
  · refine ⟨rfl, rfl, rfl, by simp, fun i hi hne => ?_⟩
    rw [Below.heap_alloc _ _ _ (by rw [hsz]; exact hi), Below.heap_setCell _ _ _ _ (fun e => hne (by rw [e]))]

theorem IdxTo.acc {w wr : World} {bx k g o : Nat} {ns : List ByteArray} {s : ByteArray} {m : Option Nat} (h : IdxTo w wr bx k ns) (hx : w.heap[bx]? = some (.cells #[.map m] 61 (0, 0))) (ha : AccAt w g o s) : AccAt wr g o s :=
  ha.of_block (h.2.2.block g ha.lt (fun e => ha.ne_index hx (by simpa using e)))

theorem idx_snoc (ns : List ByteArray) (x : ByteArray) (hx : x ∉ ns) (s : ByteArray) : idx (ns ++ [x]) s = put (idx ns) x ns.length s := by
  unfold idx put
  rw [posOf_snoc]
  by_cases h : s = x
  · subst h
    simp [posOf_none.2 hx]
  · rw [if_neg h]
    have : ¬ x = s := fun e => h e.symm
    cases hp : posOf ns s <;> simp [this, hp]

theorem idx_none {ns : List ByteArray} {s : ByteArray} (h : s ∉ ns) : idx ns s = none := by simp [idx, posOf_none.2 h]

theorem idx_none_mem {ns : List ByteArray} {s : ByteArray} (h : idx ns s = none) : s ∉ ns := by
  unfold idx at h
  rw [Option.map_eq_none_iff] at h
  exact posOf_none.1 h

theorem take_snoc_getD {ns : List ByteArray} {k : Nat} (hk : k < ns.length) : ns.take (k + 1) = ns.take k ++ [ns.getD k ByteArray.empty] := by
  rw [List.take_succ_eq_append_getElem hk, List.getD_eq_getElem?_getD, List.getElem?_eq_getElem hk]
  rfl

theorem not_mem_take {ns : List ByteArray} (hnd : ns.Nodup) {k : Nat} (hk : k < ns.length) : ns.getD k ByteArray.empty ∉ ns.take k := by
  have h1 : (ns.take (k + 1)).Nodup := hnd.sublist (List.take_sublist _ _)
  rw [take_snoc_getD hk, List.nodup_append] at h1
  intro hm
  exact h1.2.2 _ hm _ (by simp) rfl

theorem IdxTo.next {w wr : World} {bx k q : Nat} {ns : List ByteArray} (h : IdxTo w wr bx k ns) (hl : ns.length = q + 1) (hk : k < q + 1) (hnd : ns.Nodup) (hm : (ns.getD k ByteArray.empty).size ≤ maxLen) (hn : q + 1 ≤ 65536) :
    wr.cell? ⟨bx, 0, none⟩ = some (.map (some w.heap.size)) ∧ bx < wr.heap.size ∧
    ∃ w2, (Instr.mapUpdate 23 (.map (some w.heap.size)) (.string (ns.getD k ByteArray.empty)) (.int .i64 k)).run Try.prog (wr.alloc (.cells #[.string (ns.getD k ByteArray.empty), .int .i64 0, .int .i64 0, .int .i64 0, .int .i64 0] 42)).drew = .ok () w2 ∧
      IdxTo w w2 bx (k + 1) ns := by
  obtain ⟨h1, h2, h3⟩ := h
  have hbx := lt_of_block h2
  refine ⟨cell_of_one h2, hbx, ?_⟩
  have hg1 : wr.grownBy (wr.alloc (.cells #[.string (ns.getD k ByteArray.empty), .int .i64 0, .int .i64 0, .int .i64 0, .int .i64 0] 42)).drew none := by
    have := World.grownBy_alloc wr (.cells #[.string (ns.getD k ByteArray.empty), .int .i64 0, .int .i64 0, .int .i64 0, .int .i64 0] 42) none
    exact ⟨this.os, this.tape, this.output, this.size, this.block⟩
  have hmap := h1.kept hg1 (by simp)
  have hbl := hmap.lt
  obtain ⟨w2, hrun, hm2, hg2⟩ := hmap.store _ hm k (WalkArith.wf_i64 (by omega)) (by unfold maxLen; omega)
  refine ⟨w2, hrun, ?_, ?_, ?_⟩
  · have hnm := not_mem_take hnd (k := k) (by omega)
    rw [idx_none hnm] at hm2
    refine MapIs.congr (show MapIs w2 w.heap.size (k + 1) _ from hm2) fun s => ?_
    rw [take_snoc_getD (by omega), idx_snoc _ _ hnm]
    rw [List.length_take, Nat.min_eq_left (by omega)]
  · have hne : some bx ≠ some w.heap.size := by
      intro e
      simp at e
      exact hmap.ne_cells ((hg1.block bx hbx (by simp)).trans h2) e.symm
    rw [hg2.block bx (Nat.lt_of_lt_of_le hbx hg1.size) hne, hg1.block bx hbx (by simp)]
    exact h2
  · refine ⟨hg2.os.trans (hg1.os.trans h3.os), hg2.tape.trans (hg1.tape.trans h3.tape), hg2.output.trans (hg1.output.trans h3.output), Nat.le_trans h3.size (Nat.le_trans hg1.size hg2.size), fun i hi hne => ?_⟩
    have hi1 : i < wr.heap.size := Nat.lt_of_lt_of_le hi h3.size
    rw [hg2.block i (Nat.lt_of_lt_of_le hi1 hg1.size) (by simp; omega), hg1.block i hi1 (by simp), h3.block i hi hne]

theorem IdxTo.found {w wr : World} {bx : Nat} {ns : List ByteArray} {s : ByteArray} (h : IdxTo w wr bx ns.length ns) (hno : ¬ inOrd ns s) : Found w wr bx none ns s := by
  obtain ⟨h1, h2, h3⟩ := h
  rw [List.take_length] at h1
  exact ⟨some w.heap.size, h2, h1, h3, by simp [hno], Or.inr rfl⟩

theorem same_found {w : World} {bx : Nat} {m : Option Nat} {ns : List ByteArray} {s : ByteArray} (hx : w.heap[bx]? = some (.cells #[.map m] 61 (0, 0))) (hok : IndexOk w m ns) (h : m = none → inOrd ns s) : Found w w bx m ns s :=
  ⟨m, hx, hok, World.grownBy.refl _ _, ⟨fun e => ⟨e, h e⟩, fun e => e.1⟩, Or.inl rfl⟩

theorem idx_last {ns : List ByteArray} (hnd : ns.Nodup) {q : Nat} (hl : ns.length = q + 1) : idx ns (ns.getD q ByteArray.empty) = some (q : Int) := by
  unfold idx
  rw [posOf_of hnd (i := q)]
  · rfl
  · rw [List.getD_eq_getElem?_getD, List.getElem?_eq_getElem (by omega)]; rfl

theorem Inc.last {ns : List ByteArray} (h : Inc ns) {q : Nat} (hl : ns.length = q + 1) {s : ByteArray} (hlt : blt (ns.getD q ByteArray.empty) s = true) : s ∉ ns := by
  intro hm
  obtain ⟨i, hi⟩ := List.getElem?_of_mem hm
  have hil : i < ns.length := (List.getElem?_eq_some_iff.1 hi).1
  have hq : ns.getD q ByteArray.empty = ns[q] := by rw [List.getD_eq_getElem?_getD, List.getElem?_eq_getElem (by omega)]; rfl
  have hs : ns[i] = s := (List.getElem?_eq_some_iff.1 hi).2
  rw [hq] at hlt
  by_cases he : i = q
  · subst he
    rw [hs, blt_irrefl] at hlt
    cases hlt
  · have := List.pairwise_iff_getElem.1 h i q hil (by omega) (by omega)
    rw [hs] at this
    have := blt_trans this hlt
    rw [blt_irrefl] at this
    cases this

set_option maxHeartbeats 400000 in
set_option maxRecDepth 100000 in
/-- The index is made. -/
theorem find33c (bx : Nat) (a : Option Addr) (n cap : Nat) (ns : List ByteArray) (s : ByteArray) (w : World) (hx : w.heap[bx]? = some (.cells #[.map none] 61 (0, 0))) (ha : AccArg w a n ns) (hnd : ns.Nodup) (hs : s.size ≤ maxLen) (hn : n ≤ 65536) (hp : 0 < n)
    (h1 : ((ns.getD (n - 1) ByteArray.empty).toList == s.toList) = false) (h2 : Op.bytesLess (ns.getD (n - 1) ByteArray.empty).toList s.toList = false) (hno : ¬ inOrd ns s) :
    Calls Try.prog 33 #[.pointer (some ⟨bx, 0, none⟩), .slice a n cap, .string s] w fun e w' => e = foundEnd ns s ∧ Found w w' bx none ns s := by
  obtain ⟨q, rfl⟩ : ∃ q, n = q + 1 := ⟨n - 1, by omega⟩
  have hm := ha.mem
  obtain ⟨hl, hsz, hc0⟩ := ha
  obtain ⟨g, off, rfl, hc⟩ := hc0 hp
  clear hc0
  have hlast := hc q (by omega)
  rw [Nat.add_sub_cancel] at h1 h2
  generalize ns.getD q ByteArray.empty = t at h1 h2 hlast
  have hcx := cell_of_one hx
  have hfx := free_of_one hx
  have hbx : bx < w.heap.size := lt_of_block hx
  obtain ⟨l0, l1, l2, l3, l4⟩ := hlast
  clear l1 l2 l3 l4
  have hmm : ∀ (w : World) (n : Int), (Instr.makeMap 23 (some (.int .i64 n))).run Try.prog w = .ok (.map (some w.heap.size)) (w.alloc (.map #[] 0)) := fun w n => by kernel_rfl
  have hmn := fun (w : World) r => run_eql_map_nil (P := Try.prog) w 23 9 3 r Try.underlying23
  have hq0 : ((q : Int) + 1 == 0) = false := by rw [beq_eq_false_iff_ne]; omega
  go_enter Try.func33, Try.ntmps33
  go_wp2
  go_loopw [63] (fun i wr => ∃ k : Nat, k ≤ q + 1 ∧ i = .int .i64 k ∧ IdxTo w wr bx k ns) (fun i _ => (q + 1) - (intOf i).toNat)
  case atStart => exact ⟨0, Nat.zero_le _, rfl, IdxTo.start hx ns⟩
  case round =>
    obtain ⟨k, hk, rfl, hto⟩ := hrel
    by_cases hkl : k < q + 1
    · obtain ⟨c0, c1, c2, c3, c4⟩ := hto.acc hx (hc k hkl)
      have hmk := hm k
      obtain ⟨e0, e1, hnext⟩ := hto.next hl hkl hnd hmk hn
      generalize ns.getD k ByteArray.empty = u at c0 c1 c2 c3 c4 hnext hmk
      obtain ⟨w2, hrun, hto2⟩ := hnext
      clear hc h1 h2 l0 hm hsz hx hcx hfx hto hl
      go_wp2
      clear c0 c1 c2 c3 c4
      go_region
      go_wp2
      go_roundw
      case rel => exact ⟨k + 1, by omega, by go_num, hto2⟩
      case measure => simp [intOf]; omega
    · obtain rfl : k = q + 1 := by omega
      rw [← hl] at hto
      have hF := hto.found hno
      obtain ⟨hmap, hxr, _⟩ := hto
      rw [List.take_length] at hmap
      have hcx2 := cell_of_one hxr
      clear hc h1 h2 l0 hm hsz hx hcx hfx hxr
      go_wp2_with (at_lookup; refine wpList_look _ rfl _ _ rfl w.heap.size ns.length (idx ns) s rfl rfl hmap hs ?_)
      go_ret2
      exact ⟨rfl, hF⟩

set_option maxHeartbeats 400000 in
set_option maxRecDepth 100000 in
/-- The last account bears the name. -/
theorem find33a (bx : Nat) (m : Option Nat) (a : Option Addr) (q cap : Nat) (ns : List ByteArray) (s : ByteArray) (w : World) (hx : w.heap[bx]? = some (.cells #[.map m] 61 (0, 0))) (ha : AccArg w a (q + 1) ns) (hn : q + 1 ≤ 65536)
    (h1 : ((ns.getD q ByteArray.empty).toList == s.toList) = true) :
    Calls Try.prog 33 #[.pointer (some ⟨bx, 0, none⟩), .slice a (q + 1) cap, .string s] w fun e w' => e = .returned (.tuple #[.int .i64 q, .bool true]) ∧ w' = w := by
  obtain ⟨hl, hsz, hc0⟩ := ha
  obtain ⟨g, off, rfl, hc⟩ := hc0 (by omega)
  clear hc0
  have hlast := hc q (by omega)
  generalize ns.getD q ByteArray.empty = t at h1 hlast
  obtain ⟨l0, l1, l2, l3, l4⟩ := hlast
  clear l1 l2 l3 l4 hc hsz hx
  go_enter Try.func33, Try.ntmps33
  go_wp2
  go_ret2
  exact ⟨rfl, rfl⟩

set_option maxHeartbeats 400000 in
set_option maxRecDepth 100000 in
/-- No index, no account. -/
theorem find33b0 (bx : Nat) (a : Option Addr) (cap : Nat) (s : ByteArray) (w : World) (hx : w.heap[bx]? = some (.cells #[.map none] 61 (0, 0))) :
    Calls Try.prog 33 #[.pointer (some ⟨bx, 0, none⟩), .slice a 0 cap, .string s] w fun e w' => e = .returned (.tuple #[.int .i64 0, .bool false]) ∧ w' = w := by
  have hcx := cell_of_one hx
  have hmn := fun (w : World) r => run_eql_map_nil (P := Try.prog) w 23 9 3 r Try.underlying23
  clear hx
  go_enter Try.func33, Try.ntmps33
  go_wp2
  go_ret2
  exact ⟨rfl, rfl⟩

set_option maxHeartbeats 400000 in
set_option maxRecDepth 100000 in
/-- No index, the name lies above the last. -/
theorem find33b1 (bx : Nat) (a : Option Addr) (q cap : Nat) (ns : List ByteArray) (s : ByteArray) (w : World) (hx : w.heap[bx]? = some (.cells #[.map none] 61 (0, 0))) (ha : AccArg w a (q + 1) ns) (hn : q + 1 ≤ 65536)
    (h1 : ((ns.getD q ByteArray.empty).toList == s.toList) = false) (h2 : Op.bytesLess (ns.getD q ByteArray.empty).toList s.toList = true) :
    Calls Try.prog 33 #[.pointer (some ⟨bx, 0, none⟩), .slice a (q + 1) cap, .string s] w fun e w' => e = .returned (.tuple #[.int .i64 0, .bool false]) ∧ w' = w := by
  have hcx := cell_of_one hx
  have hmn := fun (w : World) r => run_eql_map_nil (P := Try.prog) w 23 9 3 r Try.underlying23
  obtain ⟨hl, hsz, hc0⟩ := ha
  obtain ⟨g, off, rfl, hc⟩ := hc0 (by omega)
  clear hc0
  have hlast := hc q (by omega)
  generalize ns.getD q ByteArray.empty = t at h1 h2 hlast
  obtain ⟨l0, l1, l2, l3, l4⟩ := hlast
  clear l1 l2 l3 l4 hc hsz hx
  have hq0 : ((q : Int) + 1 == 0) = false := by rw [beq_eq_false_iff_ne]; omega
  go_enter Try.func33, Try.ntmps33
  go_wp2
  go_ret2
  exact ⟨rfl, rfl⟩

set_option maxHeartbeats 400000 in
set_option maxRecDepth 100000 in
/-- The index is there, no account. -/
theorem find33d0 (bx b : Nat) (a : Option Addr) (cap n : Nat) (f : ByteArray → Option Int) (s : ByteArray) (w : World) (hx : w.heap[bx]? = some (.cells #[.map (some b)] 61 (0, 0))) (hmap : MapIs w b n f) (hs : s.size ≤ maxLen) :
    Calls Try.prog 33 #[.pointer (some ⟨bx, 0, none⟩), .slice a 0 cap, .string s] w fun e w' => e = .returned (.tuple #[.int .i64 ((f s).getD 0), .bool (f s).isSome]) ∧ w' = w := by
  have hcx := cell_of_one hx
  have hmn := fun (w : World) r => run_eql_map_nil (P := Try.prog) w 23 9 3 r Try.underlying23
  clear hx
  go_enter Try.func33, Try.ntmps33
  go_wp2_with (at_lookup; refine wpList_look _ rfl _ _ rfl b n f s rfl rfl hmap hs ?_)
  go_ret2
  exact ⟨rfl, rfl⟩

set_option maxHeartbeats 400000 in
set_option maxRecDepth 100000 in
/-- The index is there. -/
theorem find33d1 (bx b : Nat) (a : Option Addr) (q cap n : Nat) (ns : List ByteArray) (f : ByteArray → Option Int) (s : ByteArray) (w : World) (hx : w.heap[bx]? = some (.cells #[.map (some b)] 61 (0, 0))) (ha : AccArg w a (q + 1) ns) (hn : q + 1 ≤ 65536)
    (h1 : ((ns.getD q ByteArray.empty).toList == s.toList) = false) (hmap : MapIs w b n f) (hs : s.size ≤ maxLen) :
    Calls Try.prog 33 #[.pointer (some ⟨bx, 0, none⟩), .slice a (q + 1) cap, .string s] w fun e w' => e = .returned (.tuple #[.int .i64 ((f s).getD 0), .bool (f s).isSome]) ∧ w' = w := by
  have hcx := cell_of_one hx
  have hmn := fun (w : World) r => run_eql_map_nil (P := Try.prog) w 23 9 3 r Try.underlying23
  obtain ⟨hl, hsz, hc0⟩ := ha
  obtain ⟨g, off, rfl, hc⟩ := hc0 (by omega)
  clear hc0
  have hlast := hc q (by omega)
  generalize ns.getD q ByteArray.empty = t at h1 hlast
  obtain ⟨l0, l1, l2, l3, l4⟩ := hlast
  clear l1 l2 l3 l4 hc hsz hx
  go_enter Try.func33, Try.ntmps33
  go_wp2_with (at_lookup; refine wpList_look _ rfl _ _ rfl b n f s rfl rfl hmap hs ?_)
  go_ret2
  exact ⟨rfl, rfl⟩

/-- 'find', whole. -/
theorem find33 (bx : Nat) (m : Option Nat) (a : Option Addr) (n cap : Nat) (ns : List ByteArray) (s : ByteArray) (w : World) (hx : w.heap[bx]? = some (.cells #[.map m] 61 (0, 0))) (hok : IndexOk w m ns) (ha : AccArg w a n ns) (hnd : ns.Nodup) (hs : s.size ≤ maxLen) (hn : n ≤ 65536) :
    Calls Try.prog 33 #[.pointer (some ⟨bx, 0, none⟩), .slice a n cap, .string s] w fun e w' => e = foundEnd ns s ∧ Found w w' bx m ns s := by
  have hl := ha.1
  cases n with
  | zero =>
    have hin : inOrd ns s := Or.inl hl
    have hns : ns = [] := List.length_eq_zero_iff.1 hl
    cases m with
    | none =>
      refine (find33b0 bx a cap s w hx).mono ?_
      rintro e w' ⟨rfl, rfl⟩
      exact ⟨by simp [foundEnd, hns, idx, posOf], same_found hx hok fun _ => hin⟩
    | some b =>
      refine (find33d0 bx b a cap _ _ s w hx hok hs).mono ?_
      rintro e w' ⟨rfl, rfl⟩
      exact ⟨rfl, same_found hx hok fun _ => hin⟩
  | succ q =>
    cases h1 : ((ns.getD q ByteArray.empty).toList == s.toList) with
    | true =>
      have hlast : ns.getD q ByteArray.empty = s := toList_inj (by simpa using h1)
      have hi := idx_last hnd hl
      refine (find33a bx m a q cap ns s w hx ha hn h1).mono ?_
      rintro e w' ⟨rfl, rfl⟩
      refine ⟨by rw [hlast] at hi; simp [foundEnd, hi], same_found hx hok fun _ => Or.inr ?_⟩
      rw [hl, Nat.add_sub_cancel, hlast, blt_irrefl]
    | false =>
      have hne : ns.getD q ByteArray.empty ≠ s := fun e => by rw [e] at h1; simp at h1
      cases m with
      | some b =>
        refine (find33d1 bx b a q cap _ ns _ s w hx ha hn h1 hok hs).mono ?_
        rintro e w' ⟨rfl, rfl⟩
        exact ⟨rfl, same_found hx hok fun e => by cases e⟩
      | none =>
        cases h2 : Op.bytesLess (ns.getD q ByteArray.empty).toList s.toList with
        | true =>
          refine (find33b1 bx a q cap ns s w hx ha hn h1 h2).mono ?_
          rintro e w' ⟨rfl, rfl⟩
          refine ⟨by simp [foundEnd, idx_none (Inc.last hok hl (s := s) h2)], same_found hx hok fun _ => Or.inr ?_⟩
          rw [hl, Nat.add_sub_cancel]
          exact blt_asymm h2
        | false =>
          refine find33c bx a (q + 1) cap ns s w hx ha hnd hs hn (by omega) (by rw [Nat.add_sub_cancel]; exact h1) (by rw [Nat.add_sub_cancel]; exact h2) ?_
          rintro (h | h)
          · omega
          · rw [hl, Nat.add_sub_cancel] at h
            exact hne (blt_tri h2 h)

set_option maxHeartbeats 400000 in
theorem find14 (bx : Nat) (m : Option Nat) (a : Option Addr) (n cap : Nat) (ns : List ByteArray) (s : ByteArray) (w : World) (hx : w.heap[bx]? = some (.cells #[.map m] 61 (0, 0))) (hok : IndexOk w m ns) (ha : AccArg w a n ns) (hnd : ns.Nodup) (hs : s.size ≤ maxLen) (hn : n ≤ 65536) :
    Calls Try.prog 14 #[.pointer (some ⟨bx, 0, none⟩), .slice a n cap, .string s] w fun e w' => e = foundEnd ns s ∧ Found w w' bx m ns s := by
  have hc := find33 bx m a n cap ns s w hx hok ha hnd hs hn
  clear hx hok ha hnd hs hn
  unfold foundEnd at hc ⊢
  go_enter Try.func14, Try.ntmps14
  go_wp2_with (go_at_call 33; refine hc.mono ?_; rintro e w' ⟨rfl, hF⟩)
  go_ret2
  exact ⟨rfl, hF⟩
end Go.Proofs.Qxb6603349a
