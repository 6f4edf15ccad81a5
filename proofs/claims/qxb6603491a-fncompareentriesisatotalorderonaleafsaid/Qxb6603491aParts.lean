/-
  What can be read: slices of bytes, slices of entries. 16, 17, 31, 27, 28, 13, 10.
-/
import Derived.Test.Qxb6603491aPlain
import Derived.WalkKit
import Derived.WalkSpells
import Derived.WalkLawsBesides
import Derived.BigQuiet
import Derived.BigRegion
import Derived.Deep.QuietTactic
import Derived.Below
namespace Go.Proofs.Qxb6603491a
open Go.RowKit
set_option linter.unusedVariables false

/-- A slice of bytes that can be read: its elements are zs. -/
def BArg (w : World) (a : Option Addr) (len : Nat) (zs : List Int) : Prop :=
  zs.length = len ∧ len ≤ maxLen ∧ (∀ z ∈ zs, 0 ≤ z ∧ z ≤ 255) ∧
  (0 < len → ∃ b off, a = some ⟨b, off, none⟩ ∧ ∀ k, k < len → w.cell? ⟨b, off + k, none⟩ = some (.int .u8 (zs.getD k 0)))

theorem BArg.lt {w : World} {a : Option Addr} {len : Nat} {zs : List Int} (h : BArg w a len zs) : ∀ x, a = some x → 0 < len → x.block < w.heap.size := by
  intro x hx hl
  obtain ⟨b, off, rfl, hc⟩ := h.2.2.2 hl
  cases hx
  exact World.block_lt_of_cell? w ⟨b, off + 0, none⟩ (hc 0 hl)

theorem BArg.below {w w' : World} {a : Option Addr} {len : Nat} {zs : List Int} {B : Nat} (h : BArg w a len zs) (hb : Below B w w') (hlt : ∀ x, a = some x → 0 < len → x.block < B) : BArg w' a len zs := by
  obtain ⟨h1, h2, h3, h4⟩ := h
  refine ⟨h1, h2, h3, fun hl => ?_⟩
  obtain ⟨b, off, rfl, hc⟩ := h4 hl
  have := hlt _ rfl hl
  exact ⟨b, off, rfl, fun k hk => (hb.cell (p := ⟨b, off + k, none⟩) this).trans (hc k hk)⟩

/-- An entry. -/
structure Ent where
  h : Int
  ka : Int
  va : Int
  en : Int

def Ent.ok (e : Ent) : Prop := (0 ≤ e.h ∧ e.h ≤ 18446744073709551615) ∧ (0 ≤ e.ka ∧ e.ka ≤ 4294967295) ∧ (0 ≤ e.va ∧ e.va ≤ 4294967295) ∧ (0 ≤ e.en ∧ e.en ≤ 4294967295)

def e0 : Ent := ⟨0, 0, 0, 0⟩

/-- The four cells of an entry lie at offset o of block b. -/
structure EntAt (w : World) (b o : Nat) (e : Ent) : Prop where
  h : w.cell? ⟨b, o, none⟩ = some (.int .u64 e.h)
  ka : w.cell? ⟨b, o + 1, none⟩ = some (.int .u32 e.ka)
  va : w.cell? ⟨b, o + 2, none⟩ = some (.int .u32 e.va)
  en : w.cell? ⟨b, o + 3, none⟩ = some (.int .u32 e.en)

theorem EntAt.below {w w' : World} {b o B : Nat} {e : Ent} (h : EntAt w b o e) (hb : Below B w w') (hlt : b < B) : EntAt w' b o e :=
  ⟨(hb.cell (p := ⟨b, o, none⟩) hlt).trans h.h, (hb.cell (p := ⟨b, o + 1, none⟩) hlt).trans h.ka, (hb.cell (p := ⟨b, o + 2, none⟩) hlt).trans h.va, (hb.cell (p := ⟨b, o + 3, none⟩) hlt).trans h.en⟩

/-- A slice of entries that can be read. -/
def EArg (w : World) (a : Option Addr) (len : Nat) (es : List Ent) : Prop :=
  es.length = len ∧ len ≤ maxLen ∧ (∀ e ∈ es, e.ok) ∧
  (0 < len → ∃ b off, a = some ⟨b, off, none⟩ ∧ ∀ k, k < len → EntAt w b (off + k * 4) (es.getD k e0))

theorem EArg.lt {w : World} {a : Option Addr} {len : Nat} {es : List Ent} (h : EArg w a len es) : ∀ x, a = some x → 0 < len → x.block < w.heap.size := by
  intro x hx hl
  obtain ⟨b, off, rfl, hc⟩ := h.2.2.2 hl
  cases hx
  exact World.block_lt_of_cell? w ⟨b, off + 0 * 4, none⟩ (hc 0 hl).h

theorem EArg.below {w w' : World} {a : Option Addr} {len : Nat} {es : List Ent} {B : Nat} (h : EArg w a len es) (hb : Below B w w') (hlt : ∀ x, a = some x → 0 < len → x.block < B) : EArg w' a len es := by
  obtain ⟨h1, h2, h3, h4⟩ := h
  refine ⟨h1, h2, h3, fun hl => ?_⟩
  obtain ⟨b, off, rfl, hc⟩ := h4 hl
  exact ⟨b, off, rfl, fun k hk => (hc k hk).below hb (hlt _ rfl hl)⟩

theorem EArg.entOk {w : World} {a : Option Addr} {len : Nat} {es : List Ent} (h : EArg w a len es) {k : Nat} (hk : k < len) : (es.getD k e0).ok := by
  refine h.2.2.1 _ ?_
  rw [List.getD_eq_getElem?_getD, List.getElem?_eq_getElem (by rw [h.1]; exact hk)]
  simp

def RetBool (e : Ending) : Prop := ∃ b, e = .returned (.bool b)
theorem RetBool.mk (b : Bool) : RetBool (.returned (.bool b)) := ⟨b, rfl⟩

set_option maxHeartbeats 1000000 in
theorem bytes16 (a c : Option Addr) (la ca lc cc : Nat) (i j k : Int) (w : World) (h1 : la ≤ maxLen) (h2 : lc ≤ maxLen) :
    Calls Try.prog 16 #[.slice a la ca, .slice c lc cc, .int .i64 i, .int .i64 j, .int .i64 k] w fun e w' => RetBool e ∧ w' = w := by
  unfold maxLen at h1 h2
  by_cases x1 : 1048576 < la
  · go_enter Try.func16, Try.ntmps16
    go_wp2
    go_ret
    exact ⟨RetBool.mk _, rfl⟩
  by_cases x2 : 1048576 < lc
  · go_enter Try.func16, Try.ntmps16
    go_wp2
    go_ret
    exact ⟨RetBool.mk _, rfl⟩
  by_cases x3 : 1048576 < la + lc
  · go_enter Try.func16, Try.ntmps16
    go_wp2
    go_ret
    exact ⟨RetBool.mk _, rfl⟩
  · go_enter Try.func16, Try.ntmps16
    go_wp2
    go_ret
    exact ⟨RetBool.mk _, rfl⟩

set_option maxHeartbeats 1000000 in
theorem unit17 (c : Int) (w : World) (h : c = -1 ∨ c = 0 ∨ c = 1) :
    Calls Try.prog 17 #[.int .i64 c] w fun e w' => e = .returned (.bool true) ∧ w' = w := by
  rcases h with rfl | rfl | rfl
  all_goals
    go_enter Try.func17, Try.ntmps17
    go_wp2
    go_ret
    exact ⟨rfl, rfl⟩

set_option maxHeartbeats 1000000 in
theorem nan31 (c : Int) (w : World) : Calls Try.prog 31 #[.int .u64 c] w fun e w' => e = .returned (.bool false) ∧ w' = w := by
  go_enter Try.func31, Try.ntmps31
  go_wp2
  go_ret
  exact ⟨rfl, rfl⟩

/-- cmp.Compare. -/
def cmpI (x y : Int) : Int := if x < y then -1 else if y < x then 1 else 0

set_option maxHeartbeats 1000000 in
theorem compare27 (x y : Int) (w : World) : Calls Try.prog 27 #[.int .u64 x, .int .u64 y] w fun e w' => e = .returned (.int .i64 (cmpI x y)) ∧ w' = w := by
  have n1 := nan31 x w
  have n2 := nan31 y w
  by_cases h1 : x < y
  · have hc : cmpI x y = -1 := if_pos h1
    rw [hc]
    clear hc
    go_enter Try.func27, Try.ntmps27
    go_wp2_with fail
    refine n1.mono ?_
    rintro e w' ⟨rfl, hw⟩
    obtain rfl := hw.symm
    go_wp2_with fail
    refine n2.mono ?_
    rintro e w' ⟨rfl, hw⟩
    obtain rfl := hw.symm
    go_wp2
    go_ret
    exact ⟨rfl, rfl⟩
  by_cases h2 : y < x
  · have hc : cmpI x y = 1 := by unfold cmpI; rw [if_neg h1, if_pos h2]
    rw [hc]
    clear hc
    go_enter Try.func27, Try.ntmps27
    go_wp2_with fail
    refine n1.mono ?_
    rintro e w' ⟨rfl, hw⟩
    obtain rfl := hw.symm
    go_wp2_with fail
    refine n2.mono ?_
    rintro e w' ⟨rfl, hw⟩
    obtain rfl := hw.symm
    go_wp2
    go_ret
    exact ⟨rfl, rfl⟩
  · have hc : cmpI x y = 0 := by unfold cmpI; rw [if_neg h1, if_neg h2]
    rw [hc]
    clear hc
    go_enter Try.func27, Try.ntmps27
    go_wp2_with fail
    refine n1.mono ?_
    rintro e w' ⟨rfl, hw⟩
    obtain rfl := hw.symm
    go_wp2_with fail
    refine n2.mono ?_
    rintro e w' ⟨rfl, hw⟩
    obtain rfl := hw.symm
    go_wp2
    go_ret
    exact ⟨rfl, rfl⟩

theorem run_bytes {w : World} {a : Option Addr} {len cap : Nat} {zs : List Int} (h : BArg w a len zs) :
    (Extern.Bytes.bytesOf (.slice a len cap)).run Try.prog w = .ok ⟨(Lib.bytesOf zs).toArray⟩ w := by
  obtain ⟨h1, h2, h3, h4⟩ := h
  cases a with
  | none =>
    have h0 : len = 0 := by
      cases len with
      | zero => rfl
      | succ n => obtain ⟨b, off, hx, _⟩ := h4 (by omega); cases hx
    subst h0
    obtain rfl := List.eq_nil_of_length_eq_zero h1
    rfl
  | some x =>
    have hl := Lib.run_loadBytesX (P := Try.prog) w zs x .empty (fun j z hj => by
      have hjl : j < zs.length := (List.getElem?_eq_some_iff.1 hj).1
      obtain ⟨b, off, hx, hc⟩ := h4 (by omega)
      obtain rfl := Option.some.inj hx
      rw [Go.WideShapes.add_plain, hc j (by omega), List.getD_eq_getElem?_getD, hj]
      rfl)
    rw [h1] at hl
    have he : (⟨ByteArray.empty.data ++ (Lib.bytesOf zs).toArray⟩ : ByteArray) = ⟨(Lib.bytesOf zs).toArray⟩ := by
      apply ByteArray.ext
      show (#[] : Array UInt8) ++ (Lib.bytesOf zs).toArray = (Lib.bytesOf zs).toArray
      simp
    rw [he] at hl
    exact hl

theorem run_compare {w : World} {a c : Option Addr} {la ca lc cc : Nat} {zs ys : List Int} (h1 : BArg w a la zs) (h2 : BArg w c lc ys) :
    (Extern.BytealgCompare.compare #[.slice a la ca, .slice c lc cc]).run Try.prog w = .ok (.int .i64 (lexI zs ys)) w := by
  change Sem.run Try.prog (do pure (goInt (Extern.BytealgCompare.cmp (← Extern.Bytes.bytesOf (.slice a la ca)) (← Extern.Bytes.bytesOf (.slice c lc cc))))) w = _
  simp only [Sem.run_bind, Sem.run_pure, run_bytes h1, run_bytes h2, Result.andThen]
  rw [Lib.cmp_eq]
  show Result.ok (goInt (Lib.compareBytes (Lib.bytesOf zs) (Lib.bytesOf ys))) w = _
  rw [compareBytes_eq zs ys h1.2.2.1 h2.2.2.1]
  rfl

set_option maxHeartbeats 1000000 in
theorem compare28 (a c : Option Addr) (la ca lc cc : Nat) (zs ys : List Int) (w : World) (h1 : BArg w a la zs) (h2 : BArg w c lc ys) :
    Calls Try.prog 28 #[.slice a la ca, .slice c lc cc] w fun e w' => e = .returned (.int .i64 (lexI zs ys)) ∧ w' = w := by
  have hr := run_compare (ca := ca) (cc := cc) h1 h2
  clear h1 h2
  go_enter Try.func28, Try.ntmps28
  go_wp2
  rw [run_callFunc_extern Try.func32 (by kernel_rfl) (by kernel_rfl) (by kernel_rfl) (e := Extern.BytealgCompare.compare) (by kernel_rfl), hr]
  simp only [Result.andThen]
  rw [Oper.upon_value]
  go_wp2
  go_ret
  exact ⟨rfl, rfl⟩
end Go.Proofs.Qxb6603491a
