/-
  The leaves on the road of FnIsWordExactTable: isLetter (36), asciiLetter (16), wordByte (14), typedStem (31).
-/
import Derived.Test.Qxb6601047aRows
import Derived.WalkKit
namespace Go.Proofs.Qxb6601047a
open Go.RowKit
set_option linter.unusedSimpArgs false
set_option linter.unusedVariables false

namespace Wd
def isL (x : Nat) : Bool := decide (97 ≤ x ∧ x ≤ 122) || decide (65 ≤ x ∧ x ≤ 90)
def mark (x : Nat) : Bool := decide (48 ≤ x ∧ x ≤ 57) || decide (x = 46) || decide (x = 95) || decide (x = 47) || decide (x = 45)
def isB (x : Nat) : Bool := isL x || mark x
def stem : Nat → List UInt8
  | 0 => [121] | 1 => [110] | 2 => [121, 101, 115] | 3 => [110, 111] | 4 => [111, 110] | 5 => [111, 102, 102]
  | 6 => [116, 114, 117, 101] | 7 => [102, 97, 108, 115, 101] | _ => [110, 117, 108, 108]
def stemS (k : Nat) : ByteArray := ⟨(stem k).toArray⟩
end Wd

theorem ret_bool {a b : Bool} (h : a = true ↔ b = true) : Ending.returned (.bool a) = .returned (.bool b) := by rw [Bool.eq_iff_iff.2 h]

theorem isLetter_any (x : Nat) (hx : x < 256) (w : World) : Calls Try.prog 36 #[.int .u8 x] w fun e w' => e = .returned (.bool (Wd.isL x)) ∧ w = w' := by
  go_enter Try.func36, Try.ntmps36
  by_cases h1 : 97 ≤ x
  · by_cases h2 : x ≤ 122
    · go_wp2
      go_ret
      exact ⟨by simp [Wd.isL, h1, h2], rfl⟩
    · go_wp2
      go_ret
      exact ⟨ret_bool (by simp only [Wd.isL, Bool.or_eq_true, decide_eq_true_eq, Bool.and_eq_true, Bool.not_eq_true', decide_eq_false_iff_not, Bool.false_eq_true, false_iff, true_iff, iff_true, iff_false]; omega), rfl⟩
  · by_cases h3 : 65 ≤ x
    · by_cases h4 : x ≤ 90
      · go_wp2
        go_ret
        exact ⟨ret_bool (by simp only [Wd.isL, Bool.or_eq_true, decide_eq_true_eq, Bool.and_eq_true, Bool.not_eq_true', decide_eq_false_iff_not, Bool.false_eq_true, false_iff, true_iff, iff_true, iff_false]; omega), rfl⟩
      · go_wp2
        go_ret
        exact ⟨ret_bool (by simp only [Wd.isL, Bool.or_eq_true, decide_eq_true_eq, Bool.and_eq_true, Bool.not_eq_true', decide_eq_false_iff_not, Bool.false_eq_true, false_iff, true_iff, iff_true, iff_false]; omega), rfl⟩
    · go_wp2
      go_ret
      exact ⟨by simp [Wd.isL, h1, h3], rfl⟩

theorem bits_isL (x : Nat) (hx : x < 256) : (decide (97 ≤ bits BinOp.or IntKind.u8 (x : Int) 32) && decide (bits BinOp.or IntKind.u8 (x : Int) 32 ≤ 122)) = Wd.isL x := by
  have h : ∀ y : Fin 256, (decide (97 ≤ bits BinOp.or IntKind.u8 (y.val : Int) 32) && decide (bits BinOp.or IntKind.u8 (y.val : Int) 32 ≤ 122)) = Wd.isL y.val := by decide +kernel
  exact h ⟨x, hx⟩

theorem asciiLetter_any (x : Nat) (hx : x < 256) (w : World) : Calls Try.prog 16 #[.int .u8 x] w fun e w' => e = .returned (.bool (Wd.isL x)) ∧ w = w' := by
  have hb := bits_isL x hx
  generalize Wd.isL x = r at *
  go_enter Try.func16, Try.ntmps16
  by_cases h1 : 97 ≤ bits BinOp.or IntKind.u8 (x : Int) 32
  · by_cases h2 : bits BinOp.or IntKind.u8 (x : Int) 32 ≤ 122
    · simp only [h1, h2, decide_true, Bool.and_self] at hb
      subst hb
      go_wp2
      go_ret
      exact ⟨rfl, rfl⟩
    · simp only [h1, h2, decide_true, decide_false, Bool.and_false] at hb
      subst hb
      go_wp2
      go_ret
      exact ⟨rfl, rfl⟩
  · simp only [h1, decide_false, Bool.false_and] at hb
    subst hb
    go_wp2
    go_ret
    exact ⟨rfl, rfl⟩

theorem wordByte_any (x : Nat) (hx : x < 256) (w : World) : Calls Try.prog 14 #[.int .u8 x] w fun e w' => e = .returned (.bool (Wd.isB x)) ∧ w = w' := by
  go_enter Try.func14, Try.ntmps14
  go_wp2_with fail
  refine (asciiLetter_any x hx _).mono ?_
  rintro e w' ⟨rfl, rfl⟩
  cases hl : Wd.isL x with
  | true =>
    go_wp2
    go_ret
    exact ⟨by simp [Wd.isB, hl], rfl⟩
  | false =>
    by_cases h1 : 48 ≤ x ∧ x ≤ 57
    · obtain ⟨h1, h2⟩ := h1
      go_wp2
      go_ret
      exact ⟨by simp [Wd.isB, Wd.mark, h1, h2], rfl⟩
    · by_cases h2 : x = 46
      · subst h2
        go_wp2
        go_ret
        exact ⟨by simp [Wd.isB, Wd.mark], rfl⟩
      · by_cases h3 : x = 95
        · subst h3
          go_wp2
          go_ret
          exact ⟨by simp [Wd.isB, Wd.mark], rfl⟩
        · by_cases h4 : x = 47
          · subst h4
            go_wp2
            go_ret
            exact ⟨by simp [Wd.isB, Wd.mark], rfl⟩
          · have hm : Wd.isB x = decide (x = 45) := by simp [Wd.isB, Wd.mark, hl, h2, h3, h4]; omega
            have HM : Hid (Wd.isB x = decide (x = 45)) := hm
            clear hm
            by_cases h5 : x = 45
            · subst h5
              go_wp2
              go_ret
              exact ⟨by rw [HM.out]; rfl, rfl⟩
            · by_cases h6 : 48 ≤ x
              · have h7 : 57 < x := by omega
                clear h1
                go_wp2
                go_ret
                exact ⟨by rw [HM.out]; simp [h5]; omega, rfl⟩
              · clear h1
                go_wp2
                go_ret
                exact ⟨by rw [HM.out]; simp [h5]; omega, rfl⟩

theorem typedStem_any (k : Nat) (hk : k < 9) (w : World) : Calls Try.prog 31 #[.int .i64 k] w fun e w' => e = .returned (.string (Wd.stemS k)) ∧ w = w' := by
  have h : k = 0 ∨ k = 1 ∨ k = 2 ∨ k = 3 ∨ k = 4 ∨ k = 5 ∨ k = 6 ∨ k = 7 ∨ k = 8 := by omega
  rcases h with rfl | rfl | rfl | rfl | rfl | rfl | rfl | rfl | rfl <;>
  · go_enter Try.func31, Try.ntmps31
    go_wp2
    go_ret
    exact ⟨rfl, rfl⟩
