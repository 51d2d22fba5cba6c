/-
  Plain lemmas: where the items lie in the joined text.
-/
import Derived.Test.Qxb6601573aTok
namespace Go.Proofs.Qxb6601573a
open Go.RowKit
set_option linter.unusedSimpArgs false
set_option linter.unusedVariables false

/-- where item i starts -/
def st (A : Nat → ByteArray) (i : Nat) : Nat := if i = 0 then 0 else (joined A i).length + 1
theorem st_end (A : Nat → ByteArray) (i : Nat) : st A i + (A i).size = (joined A (i + 1)).length := by
  unfold st
  by_cases h : i = 0
  · subst h; simp [joined, bs_length]
  · simp [joined, bs_length, h]; omega
theorem st_next (A : Nat → ByteArray) (i : Nat) : st A (i + 1) = (joined A (i + 1)).length + 1 := by simp [st]

theorem joined_more {A : Nat → ByteArray} (k : Nat) : ∀ d, ∃ rest, joined A (k + d) = joined A k ++ rest
  | 0 => ⟨[], by simp⟩
  | d + 1 => by
    obtain ⟨rest, h⟩ := joined_more (A := A) k d
    exact ⟨rest ++ ((if k + d = 0 then [] else [44]) ++ bs (A (k + d))), by rw [← Nat.add_assoc, show joined A (k + d + 1) = joined A (k + d) ++ (if k + d = 0 then [] else [44]) ++ bs (A (k + d)) from rfl, h]; simp⟩
theorem joined_upto {A : Nat → ByteArray} {k m : Nat} (h : k ≤ m) : ∃ rest, joined A m = joined A k ++ rest := by
  obtain ⟨rest, hr⟩ := joined_more (A := A) k (m - k)
  rw [show k + (m - k) = m by omega] at hr
  exact ⟨rest, hr⟩
theorem joined_len_le {A : Nat → ByteArray} {k m : Nat} (h : k ≤ m) : (joined A k).length ≤ (joined A m).length := by
  obtain ⟨rest, hr⟩ := joined_upto (A := A) h
  rw [hr, List.length_append]
  omega
theorem getD_in {P X R : List Int} {j : Nat} (hj : j < X.length) : (P ++ (X ++ R)).getD (P.length + j) 0 = X.getD j 0 := by
  simp only [List.getD_eq_getElem?_getD, List.getElem?_append, if_neg (show ¬ P.length + j < P.length by omega)]
  rw [show P.length + j - P.length = j by omega, if_pos hj]
/-- a byte of item i -/
theorem joined_byte {A : Nat → ByteArray} {i m r : Nat} (hi : i < m) (hr : r < (A i).size) : (joined A m).getD (st A i + r) 0 = (bs (A i)).getD r 0 := by
  obtain ⟨rest, h⟩ := joined_upto (A := A) (show i + 1 ≤ m by omega)
  have e : joined A m = (joined A i ++ (if i = 0 then [] else [44])) ++ (bs (A i) ++ rest) := by rw [h]; simp [joined]
  have el : (joined A i ++ (if i = 0 then [] else [44])).length = st A i := by
    unfold st
    by_cases h : i = 0
    · subst h; simp [joined]
    · simp [h]
  rw [e, ← el, getD_in (by rw [bs_length]; exact hr)]
/-- the comma behind item i, where another follows -/
theorem joined_comma {A : Nat → ByteArray} {i m : Nat} (hi : i + 1 < m) : (joined A m).getD (joined A (i + 1)).length 0 = 44 := by
  obtain ⟨rest, h⟩ := joined_upto (A := A) (show i + 1 + 1 ≤ m by omega)
  have e : joined A m = joined A (i + 1) ++ ([44] ++ (bs (A (i + 1)) ++ rest)) := by rw [h]; simp [joined]
  have := getD_in (P := joined A (i + 1)) (X := [44]) (R := bs (A (i + 1)) ++ rest) (j := 0) (by simp)
  rw [e]
  exact this
theorem not_has {s : ByteArray} {z : Int} (h : ¬ has s z) {r : Nat} (hr : r < s.size) : ¬ (bs s).getD r 0 = z := fun e => h ((has_iff s z).2 ⟨r, hr, e⟩)
