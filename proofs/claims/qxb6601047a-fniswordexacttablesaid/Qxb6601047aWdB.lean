/-
  caseFormOf (30), yaml11Bool (37), isCoreWord (38).
-/
import Derived.Test.Qxb6601047aWdA
namespace Go.Proofs.Qxb6601047a
open Go.RowKit
set_option linter.unusedSimpArgs false
set_option linter.unusedVariables false

namespace Wd
def byt (s : ByteArray) (i : Nat) : Nat := if h : i < s.size then s[i].toNat else 0
theorem byt_of {s : ByteArray} {i : Nat} (h : i < s.size) : byt s i = s[i].toNat := by simp [byt, h]
theorem byt_lt (s : ByteArray) (i : Nat) : byt s i < 256 := by
  unfold byt
  split
  · exact UInt8.toNat_lt _
  · omega
def hi (t : ByteArray) (j : Nat) : Int := ((byt t j : Int) - 32) % 256
def P1 (s t : ByteArray) (j : Nat) : Prop := (byt s j : Int) = byt t j
def P2 (s t : ByteArray) (j : Nat) : Prop := (byt s j : Int) = if j = 0 then hi t j else byt t j
def P3 (s t : ByteArray) (j : Nat) : Prop := (byt s j : Int) = hi t j
def caseF (s t : ByteArray) : Prop := s.size = t.size ∧ ((∀ j, j < t.size → P1 s t j) ∨ (∀ j, j < t.size → P2 s t j) ∨ (∀ j, j < t.size → P3 s t j))

theorem stepT {p : Nat → Prop} {x : Bool} {k : Nat} (h : x = true ↔ ∀ j, j < k → p j) (hp : p k) : x = true ↔ ∀ j, j < k + 1 → p j := by
  rw [h]
  constructor
  · intro g j hj
    by_cases e : j = k
    · subst e; exact hp
    · exact g j (by omega)
  · intro g j hj
    exact g j (by omega)
theorem stepF {p : Nat → Prop} {k : Nat} (hp : ¬ p k) : (false = true) ↔ (∀ j, j < k + 1 → p j) :=
  Iff.intro (fun h => by cases h) (fun h => absurd (h k (by omega)) hp)

/-- the call gave a bool: that of p -/
def Says (p : Prop) (e : Ending) : Prop := ∃ b : Bool, e = .returned (.bool b) ∧ (b = true ↔ p)
/-- the call gave two bools, the second that of p -/
def Says2 (p : Prop) (e : Ending) : Prop := ∃ v b : Bool, e = .returned (.tuple #[.bool v, .bool b]) ∧ (b = true ↔ p)
theorem Says.of {p : Prop} {b : Bool} (h : b = true ↔ p) : Says p (.returned (.bool b)) := ⟨b, rfl, h⟩
theorem Says2.of {p : Prop} {v b : Bool} (h : b = true ↔ p) : Says2 p (.returned (.tuple #[.bool v, .bool b])) := ⟨v, b, rfl, h⟩

def bools : List (List UInt8) := [[121], [89], [121, 101, 115], [89, 101, 115], [89, 69, 83], [111, 110], [79, 110], [79, 78], [116, 114, 117, 101], [84, 114, 117, 101], [84, 82, 85, 69],
  [110], [78], [110, 111], [78, 111], [78, 79], [111, 102, 102], [79, 102, 102], [79, 70, 70], [102, 97, 108, 115, 101], [70, 97, 108, 115, 101], [70, 65, 76, 83, 69]]
def core : List (List UInt8) := [[116, 114, 117, 101], [84, 114, 117, 101], [84, 82, 85, 69], [102, 97, 108, 115, 101], [70, 97, 108, 115, 101], [70, 65, 76, 83, 69], [110, 117, 108, 108], [78, 117, 108, 108], [78, 85, 76, 76]]
end Wd

set_option maxHeartbeats 1000000 in
theorem caseForm_any (s t : ByteArray) (hs : s.size ≤ 1048576) (ht : t.size ≤ 5) (w : World) : Calls Try.prog 30 #[.string s, .string t] w fun e w' => Wd.Says (Wd.caseF s t) e ∧ w = w' := by
  go_enter Try.func30, Try.ntmps30
  by_cases hl : s.size = t.size
  · go_wp2
    go_loop [5, 6, 7, 8] (fun b5 b6 b7 i => ∃ k : Nat, k ≤ t.size ∧ i = .int .i64 k ∧ ∃ x y z, b5 = .bool x ∧ b6 = .bool y ∧ b7 = .bool z ∧ Hid (x = true ↔ ∀ j, j < k → Wd.P1 s t j) ∧ Hid (y = true ↔ ∀ j, j < k → Wd.P2 s t j) ∧ Hid (z = true ↔ ∀ j, j < k → Wd.P3 s t j)) (fun b5 b6 b7 i => t.size - (intOf i).toNat)
    case atStart => exact ⟨0, Nat.zero_le _, rfl, true, true, true, rfl, rfl, rfl, ⟨fun _ j h => by omega, fun _ => rfl⟩, ⟨fun _ j h => by omega, fun _ => rfl⟩, ⟨fun _ j h => by omega, fun _ => rfl⟩⟩
    case round =>
      obtain ⟨k, hk, rfl, x, y, z, rfl, rfl, rfl, hx, hy, hz⟩ := hrel
      by_cases hlt : k < t.size
      · have e1 : Hid (Wd.P1 s t k ↔ (s[k].toNat : Int) = t[k].toNat) := by
          show Wd.P1 s t k ↔ _
          unfold Wd.P1; rw [Wd.byt_of (by omega), Wd.byt_of hlt]
        have e3 : Hid (Wd.P3 s t k ↔ (s[k].toNat : Int) = ((t[k].toNat : Int) - 32) % 256) := by
          show Wd.P3 s t k ↔ _
          unfold Wd.P3 Wd.hi; rw [Wd.byt_of (by omega), Wd.byt_of hlt]
        have e2 : Hid (Wd.P2 s t k ↔ if k = 0 then Wd.P3 s t k else Wd.P1 s t k) := by
          show Wd.P2 s t k ↔ _
          unfold Wd.P2 Wd.P3 Wd.P1
          split <;> exact Iff.rfl
        go_wp2_with fail
        all_goals
          rename_i h1 h2 h3
          refine ⟨⟨k + 1, by omega, by go_num, _, _, _, rfl, rfl, rfl, ?_, ?_, ?_⟩, by simp [intOf]; omega⟩
          · first
              | exact Wd.stepT hx.out (e1.out.2 (by simpa using h1))
              | exact Wd.stepF (fun h => absurd (e1.out.1 h) (by simpa using h1))
          · first
              | exact Wd.stepT hy.out (e2.out.2 (by rw [if_pos (by simpa using h3)]; exact e3.out.2 (by simpa using h2)))
              | exact Wd.stepT hy.out (e2.out.2 (by rw [if_neg (by simpa using h3)]; exact e1.out.2 (by simpa using h1)))
              | exact Wd.stepF (fun h => by have := e2.out.1 h; rw [if_pos (by simpa using h3)] at this; exact absurd (e3.out.1 this) (by simpa using h2))
              | exact Wd.stepF (fun h => by have := e2.out.1 h; rw [if_neg (by simpa using h3)] at this; exact absurd (e1.out.1 this) (by simpa using h1))
          · first
              | exact Wd.stepT hz.out (e3.out.2 (by simpa using h2))
              | exact Wd.stepF (fun h => absurd (e3.out.1 h) (by simpa using h2))
      · obtain rfl : k = t.size := by omega
        have HL : Hid (s.size = t.size) := hl
        cases x with
        | true =>
          go_wp2
          go_ret
          exact ⟨Wd.Says.of ⟨fun _ => ⟨HL.out, .inl (hx.out.1 (by trivial))⟩, fun _ => rfl⟩, rfl⟩
        | false =>
          cases y with
          | true =>
            go_wp2
            go_ret
            exact ⟨Wd.Says.of ⟨fun _ => ⟨HL.out, .inr (.inl (hy.out.1 (by trivial)))⟩, fun _ => rfl⟩, rfl⟩
          | false =>
            go_wp2
            go_ret
            refine ⟨Wd.Says.of ⟨fun h => ⟨HL.out, .inr (.inr (hz.out.1 h))⟩, fun h => ?_⟩, rfl⟩
            rcases h.2 with h | h | h
            · exact absurd (hx.out.2 h) (by decide)
            · exact absurd (hy.out.2 h) (by decide)
            · exact hz.out.2 h
  · have HL : Hid (¬ s.size = t.size) := hl
    go_wp2
    go_ret
    exact ⟨Wd.Says.of ⟨(fun h => by cases h), fun h => absurd h.1 HL.out⟩, rfl⟩

set_option maxHeartbeats 2000000 in
theorem yaml_any (s : ByteArray) (w : World) : Calls Try.prog 37 #[.string s] w fun e w' => Wd.Says2 (s.toList ∈ Wd.bools) e ∧ w = w' := by
  go_enter Try.func37, Try.ntmps37
  go_wp2
  all_goals
    go_ret2
    refine ⟨Wd.Says2.of ?_, rfl⟩
    simp only [Wd.bools, List.mem_cons, List.not_mem_nil, or_false, beq_iff_eq, beq_eq_false_iff_ne, ByteArray.toList_eq] at *
    first | contradiction | (simp [*]; done)

set_option maxHeartbeats 2000000 in
theorem core_any (s : ByteArray) (w : World) : Calls Try.prog 38 #[.string s] w fun e w' => Wd.Says (s.toList ∈ Wd.core) e ∧ w = w' := by
  go_enter Try.func38, Try.ntmps38
  go_wp2
  all_goals
    go_ret
    refine ⟨Wd.Says.of ?_, rfl⟩
    simp only [Wd.core, List.mem_cons, List.not_mem_nil, or_false, beq_iff_eq, beq_eq_false_iff_ne, ByteArray.toList_eq] at *
    first | contradiction | (simp [*]; done)
