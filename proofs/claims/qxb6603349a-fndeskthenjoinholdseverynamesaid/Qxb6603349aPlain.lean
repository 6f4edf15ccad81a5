/-
  Plain facts, no Go in sight: byte strings in order; the place of a name in a list of names.
-/
import Derived.WalkKit
import Derived.WalkLawsBesides
namespace Go.Proofs.Qxb6603349a

theorem toList_inj {a b : ByteArray} (h : a.toList = b.toList) : a = b := by
  rw [ByteArray.toList_eq, ByteArray.toList_eq] at h
  cases a; cases b
  simp at h
  simp [h]

theorem toList_beq (a b : ByteArray) : (a.toList == b.toList) = decide (a = b) := by
  by_cases h : a = b
  · simp [h]
  · have : ¬ a.toList = b.toList := fun e => h (toList_inj e)
    simp [h, this]

/-- Go's '<' on strings. -/
def blt (a b : ByteArray) : Bool := Op.bytesLess a.toList b.toList

theorem less_irrefl : ∀ x : List UInt8, Op.bytesLess x x = false
  | [] => rfl
  | a :: x => by simp [Op.bytesLess, less_irrefl x]

theorem less_trans : ∀ x y z : List UInt8, Op.bytesLess x y = true → Op.bytesLess y z = true → Op.bytesLess x z = true
  | _, [], _, h, _ => by cases ‹List UInt8› <;> simp [Op.bytesLess] at h
  | _, _ :: _, [], _, h => by simp [Op.bytesLess] at h
  | [], _ :: _, _ :: _, _, _ => by simp [Op.bytesLess]
  | a :: x, b :: y, c :: z, h1, h2 => by
    simp only [Op.bytesLess, Bool.or_eq_true, decide_eq_true_eq, Bool.and_eq_true, beq_iff_eq] at h1 h2 ⊢
    rcases h1 with h1 | ⟨rfl, h1⟩
    · rcases h2 with h2 | ⟨rfl, h2⟩
      · left; rw [UInt8.lt_iff_toNat_lt] at *; omega
      · left; exact h1
    · rcases h2 with h2 | ⟨rfl, h2⟩
      · left; exact h2
      · right; exact ⟨rfl, less_trans x y z h1 h2⟩

theorem less_tri : ∀ x y : List UInt8, Op.bytesLess x y = false → Op.bytesLess y x = false → x = y
  | [], [], _, _ => rfl
  | [], _ :: _, h, _ => by simp [Op.bytesLess] at h
  | _ :: _, [], _, h => by simp [Op.bytesLess] at h
  | a :: x, b :: y, h1, h2 => by
    simp only [Op.bytesLess, Bool.or_eq_false_iff, decide_eq_false_iff_not, Bool.and_eq_false_iff, beq_eq_false_iff_ne] at h1 h2
    have hab : a = b := by
      have h3 := h1.1
      have h4 := h2.1
      rw [UInt8.lt_iff_toNat_lt] at h3 h4
      exact UInt8.toNat_inj.1 (by omega)
    subst hab
    rcases h1.2 with h | h
    · exact absurd rfl h
    · rcases h2.2 with h' | h'
      · exact absurd rfl h'
      · rw [less_tri x y h h']

theorem blt_irrefl (a : ByteArray) : blt a a = false := less_irrefl _
theorem blt_trans {a b c : ByteArray} (h1 : blt a b = true) (h2 : blt b c = true) : blt a c = true := less_trans _ _ _ h1 h2
theorem blt_tri {a b : ByteArray} (h1 : blt a b = false) (h2 : blt b a = false) : a = b := toList_inj (less_tri _ _ h1 h2)
theorem blt_ne {a b : ByteArray} (h : blt a b = true) : a ≠ b := fun e => by subst e; rw [blt_irrefl] at h; cases h
theorem blt_asymm {a b : ByteArray} (h : blt a b = true) : blt b a = false := by
  cases hb : blt b a
  · rfl
  · have := blt_trans h hb; rw [blt_irrefl] at this; cases this

/-- Names strictly increasing. -/
def Inc (ns : List ByteArray) : Prop := ns.Pairwise fun a b => blt a b = true

theorem Inc.nodup {ns : List ByteArray} (h : Inc ns) : ns.Nodup := List.pairwise_iff_getElem.2 fun i j hi hj hij => blt_ne (List.pairwise_iff_getElem.1 h i j hi hj hij)

/-- The first place of s among the names. -/
def posOf : List ByteArray → ByteArray → Option Nat
  | [], _ => none
  | x :: xs, s => if x = s then some 0 else (posOf xs s).map (· + 1)

theorem posOf_none {ns : List ByteArray} {s : ByteArray} : posOf ns s = none ↔ s ∉ ns := by
  induction ns with
  | nil => simp [posOf]
  | cons x xs ih =>
    unfold posOf
    by_cases h : x = s
    · simp [h]
    · simp [h, ih, Ne.symm h]

theorem posOf_lt {ns : List ByteArray} {s : ByteArray} {i : Nat} (h : posOf ns s = some i) : i < ns.length ∧ ns[i]? = some s := by
  induction ns generalizing i with
  | nil => simp [posOf] at h
  | cons x xs ih =>
    unfold posOf at h
    by_cases hx : x = s
    · simp [hx] at h; subst h; simp [hx]
    · simp [hx] at h
      obtain ⟨j, hj, rfl⟩ := h
      have := ih hj
      exact ⟨by simp; omega, by simpa using this.2⟩

theorem posOf_of {ns : List ByteArray} {s : ByteArray} {i : Nat} (hn : ns.Nodup) (h : ns[i]? = some s) : posOf ns s = some i := by
  induction ns generalizing i with
  | nil => simp at h
  | cons x xs ih =>
    unfold posOf
    rw [List.nodup_cons] at hn
    cases i with
    | zero => simp at h; simp [h]
    | succ i =>
      simp at h
      have : x ≠ s := fun e => hn.1 (e ▸ List.mem_of_getElem? h)
      simp [this, ih hn.2 h]

theorem posOf_snoc (ns : List ByteArray) (x s : ByteArray) : posOf (ns ++ [x]) s = match posOf ns s with | some i => some i | none => if x = s then some ns.length else none := by
  induction ns with
  | nil => simp [posOf]
  | cons y ys ih =>
    show posOf (y :: (ys ++ [x])) s = _
    unfold posOf
    by_cases h : y = s
    · simp [h]
    · simp only [h, if_false, ih]
      cases posOf ys s with
      | some i => simp
      | none => by_cases hx : x = s <;> simp [hx]

end Go.Proofs.Qxb6603349a
