/-
  The plain order: lists of bytes lexicographically; entries by hash, then by key.
-/
import Derived.Test.Qxb6603491aRows
import Derived.Lib.BytesEntry
namespace Go.Proofs.Qxb6603491a
set_option linter.unusedVariables false

/-- Two lists of numbers, lexicographically: -1, 0 or 1. -/
def lexI : List Int → List Int → Int
  | [], [] => 0
  | [], _ :: _ => -1
  | _ :: _, [] => 1
  | a :: xs, b :: ys => if a < b then -1 else if b < a then 1 else lexI xs ys

theorem lexI_unit : ∀ a b, lexI a b = -1 ∨ lexI a b = 0 ∨ lexI a b = 1
  | [], [] => by simp [lexI]
  | [], _ :: _ => by simp [lexI]
  | _ :: _, [] => by simp [lexI]
  | a :: xs, b :: ys => by
    unfold lexI
    split
    · exact Or.inl rfl
    · split
      · exact Or.inr (Or.inr rfl)
      · exact lexI_unit xs ys

theorem lexI_self : ∀ a, lexI a a = 0
  | [] => rfl
  | a :: xs => by
    unfold lexI
    rw [if_neg (by omega), if_neg (by omega)]
    exact lexI_self xs

theorem lexI_neg : ∀ a b, lexI a b = - lexI b a
  | [], [] => by simp [lexI]
  | [], _ :: _ => by simp [lexI]
  | _ :: _, [] => by simp [lexI]
  | a :: xs, b :: ys => by
    have ih := lexI_neg xs ys
    unfold lexI
    by_cases h1 : a < b
    · rw [if_pos h1, if_neg (by omega), if_pos h1]
    · by_cases h2 : b < a
      · rw [if_neg h1, if_pos h2, if_pos h2]; rfl
      · rw [if_neg h1, if_neg h2, if_neg h2, if_neg h1]; exact ih

theorem lexI_trans : ∀ a b c, lexI a b ≤ 0 → lexI b c ≤ 0 → lexI a c ≤ 0
  | [], b, c, _, _ => by cases c <;> simp [lexI]
  | a :: xs, [], c, h, _ => by simp [lexI] at h
  | a :: xs, b :: ys, [], _, h => by simp [lexI] at h
  | a :: xs, b :: ys, c :: zs, h1, h2 => by
    have ih := lexI_trans xs ys zs
    unfold lexI at h1 h2 ⊢
    by_cases x1 : a < b
    · by_cases y1 : b < c
      · rw [if_pos (show a < c by omega)]; omega
      · rw [if_neg y1] at h2
        by_cases y2 : c < b
        · rw [if_pos y2] at h2; omega
        · rw [if_pos (show a < c by omega)]; omega
    · rw [if_neg x1] at h1
      by_cases x2 : b < a
      · rw [if_pos x2] at h1; omega
      · rw [if_neg x2] at h1
        by_cases y1 : b < c
        · rw [if_pos (show a < c by omega)]; omega
        · rw [if_neg y1] at h2
          by_cases y2 : c < b
          · rw [if_pos y2] at h2; omega
          · rw [if_neg y2] at h2
            rw [if_neg (show ¬ a < c by omega), if_neg (show ¬ c < a by omega)]
            exact ih h1 h2

/-- Hash, then key. -/
def cmpK (h1 : Int) (k1 : List Int) (h2 : Int) (k2 : List Int) : Int := if h1 < h2 then -1 else if h2 < h1 then 1 else lexI k1 k2

theorem cmpK_unit (h1 : Int) (k1 : List Int) (h2 : Int) (k2 : List Int) : cmpK h1 k1 h2 k2 = -1 ∨ cmpK h1 k1 h2 k2 = 0 ∨ cmpK h1 k1 h2 k2 = 1 := by
  unfold cmpK
  split
  · exact Or.inl rfl
  · split
    · exact Or.inr (Or.inr rfl)
    · exact lexI_unit _ _

theorem cmpK_self (h1 : Int) (k1 : List Int) : cmpK h1 k1 h1 k1 = 0 := by
  unfold cmpK
  rw [if_neg (by omega), if_neg (by omega)]
  exact lexI_self _

theorem cmpK_neg (h1 : Int) (k1 : List Int) (h2 : Int) (k2 : List Int) : cmpK h1 k1 h2 k2 = - cmpK h2 k2 h1 k1 := by
  unfold cmpK
  by_cases x : h1 < h2
  · rw [if_pos x, if_neg (by omega), if_pos x]
  · by_cases y : h2 < h1
    · rw [if_neg x, if_pos y, if_pos y]; rfl
    · rw [if_neg x, if_neg y, if_neg y, if_neg x]; exact lexI_neg _ _

theorem cmpK_trans (h1 : Int) (k1 : List Int) (h2 : Int) (k2 : List Int) (h3 : Int) (k3 : List Int) (p : cmpK h1 k1 h2 k2 ≤ 0) (q : cmpK h2 k2 h3 k3 ≤ 0) : cmpK h1 k1 h3 k3 ≤ 0 := by
  unfold cmpK at *
  by_cases x1 : h1 < h2
  · by_cases y1 : h2 < h3
    · rw [if_pos (show h1 < h3 by omega)]; omega
    · rw [if_neg y1] at q
      by_cases y2 : h3 < h2
      · rw [if_pos y2] at q; omega
      · rw [if_pos (show h1 < h3 by omega)]; omega
  · rw [if_neg x1] at p
    by_cases x2 : h2 < h1
    · rw [if_pos x2] at p; omega
    · rw [if_neg x2] at p
      by_cases y1 : h2 < h3
      · rw [if_pos (show h1 < h3 by omega)]; omega
      · rw [if_neg y1] at q
        by_cases y2 : h3 < h2
        · rw [if_pos y2] at q; omega
        · rw [if_neg y2] at q
          rw [if_neg (show ¬ h1 < h3 by omega), if_neg (show ¬ h3 < h1 by omega)]
          exact lexI_trans _ _ _ p q

theorem cmpK_zero (h1 : Int) (k1 : List Int) (h2 : Int) (k2 : List Int) : cmpK h1 k1 h2 k2 = 0 ↔ h1 = h2 ∧ lexI k1 k2 = 0 := by
  unfold cmpK
  by_cases x : h1 < h2
  · rw [if_pos x]
    exact ⟨fun h => by omega, fun h => by omega⟩
  · rw [if_neg x]
    by_cases y : h2 < h1
    · rw [if_pos y]
      exact ⟨fun h => by omega, fun h => by omega⟩
    · rw [if_neg y]
      exact ⟨fun h => ⟨by omega, h⟩, fun h => h.2⟩

theorem lt8 {x y : Int} (hx : 0 ≤ x ∧ x ≤ 255) (hy : 0 ≤ y ∧ y ≤ 255) : x.toNat.toUInt8 < y.toNat.toUInt8 ↔ x < y := by
  rw [UInt8.lt_iff_toNat_lt]
  simp only [UInt8.toNat_ofNat', Nat.toUInt8_eq]
  omega

theorem compareBytes_eq : ∀ (xs ys : List Int), (∀ z ∈ xs, 0 ≤ z ∧ z ≤ 255) → (∀ z ∈ ys, 0 ≤ z ∧ z ≤ 255) → Lib.compareBytes (Lib.bytesOf xs) (Lib.bytesOf ys) = lexI xs ys
  | [], [], _, _ => rfl
  | [], _ :: _, _, _ => rfl
  | _ :: _, [], _, _ => rfl
  | x :: xs, y :: ys, hx, hy => by
    have ih := compareBytes_eq xs ys (fun z hz => hx z (List.mem_cons_of_mem _ hz)) (fun z hz => hy z (List.mem_cons_of_mem _ hz))
    have a := hx x (List.mem_cons_self ..)
    have b := hy y (List.mem_cons_self ..)
    unfold lexI
    show Lib.compareBytes (x.toNat.toUInt8 :: Lib.bytesOf xs) (y.toNat.toUInt8 :: Lib.bytesOf ys) = _
    unfold Lib.compareBytes
    rw [ih]
    simp only [lt8 a b, lt8 b a]
end Go.Proofs.Qxb6603491a
