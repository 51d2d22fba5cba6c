/-
  The plain law: the table of words, twice.
-/
import Derived.Test.Qxb6601047aWdB
namespace Go.Proofs.Qxb6601047a
open Go.RowKit
set_option linter.unusedSimpArgs false
set_option linter.unusedVariables false

namespace Wd
def words : List (List UInt8) := bools ++ core
def upp (l : List UInt8) : List UInt8 := l.map (· - 32)
def ttl : List UInt8 → List UInt8
  | [] => []
  | c :: l => (c - 32) :: l

theorem size_toList (s : ByteArray) : s.toList.length = s.size := by rw [ByteArray.toList_eq]; exact Array.length_toList
theorem byt_list (s : ByteArray) (j : Nat) : byt s j = (s.toList.getD j 0).toNat := by
  rw [ByteArray.toList_eq]
  unfold byt
  split
  · rename_i h
    have h2 : j < s.data.toList.length := by rw [Array.length_toList]; exact h
    rw [List.getD_eq_getElem?_getD, List.getElem?_eq_getElem h2]
    rfl
  · rename_i h
    have h2 : s.data.toList.length ≤ j := by rw [Array.length_toList]; exact Nat.le_of_not_lt h
    rw [List.getD_eq_getElem?_getD, List.getElem?_eq_none h2]
    rfl
theorem eq_iff (l M : List UInt8) : (l.length = M.length ∧ ∀ j, j < M.length → ((l.getD j 0).toNat : Int) = (M.getD j 0).toNat) ↔ l = M := by
  constructor
  · rintro ⟨h1, h2⟩
    apply List.ext_getElem h1
    intro j hj hj'
    have := h2 j hj'
    rw [List.getD_eq_getElem?_getD, List.getD_eq_getElem?_getD, List.getElem?_eq_getElem hj, List.getElem?_eq_getElem hj'] at this
    simp only [Option.getD_some] at this
    exact UInt8.toNat_inj.1 (Int.ofNat.inj this)
  · rintro rfl
    exact ⟨rfl, fun _ _ => rfl⟩

theorem stem_toList (k : Nat) : (stemS k).toList = stem k := by rw [ByteArray.toList_eq]; rfl
theorem stem_size (k : Nat) : (stemS k).size = (stem k).length := by rw [← size_toList, stem_toList]
theorem stem_facts : ∀ k : Fin 9, (ttl (stem k)).length = (stem k).length ∧ (upp (stem k)).length = (stem k).length ∧ (stem k).length ≤ 5 ∧
    ∀ j : Fin 5, j.val < (stem k).length → (((stem k).getD j 0).toNat - 32 : Int) % 256 = ((upp (stem k)).getD j 0).toNat ∧
      (if j.val = 0 then (((stem k).getD j 0).toNat - 32 : Int) % 256 else ((stem k).getD j 0).toNat) = ((ttl (stem k)).getD j 0).toNat := by decide +kernel

theorem caseF_iff (s : ByteArray) (k : Nat) (hk : k < 9) : caseF s (stemS k) ↔ s.toList = stem k ∨ s.toList = ttl (stem k) ∨ s.toList = upp (stem k) := by
  obtain ⟨f1, f2, f3, f4⟩ := stem_facts ⟨k, hk⟩
  simp only at f1 f2 f3 f4
  rw [← eq_iff s.toList (stem k), ← eq_iff s.toList (ttl (stem k)), ← eq_iff s.toList (upp (stem k)), f1, f2, size_toList]
  unfold caseF P1 P2 P3 hi
  simp only [byt_list, stem_toList, stem_size]
  have g2 : (∀ j, j < (stem k).length → ((s.toList.getD j 0).toNat : Int) = if j = 0 then (((stem k).getD j 0).toNat - 32 : Int) % 256 else ((stem k).getD j 0).toNat) ↔ (∀ j, j < (stem k).length → ((s.toList.getD j 0).toNat : Int) = ((ttl (stem k)).getD j 0).toNat) :=
    forall_congr' fun j => forall_congr' fun hj => by rw [← (f4 ⟨j, by omega⟩ hj).2]
  have g3 : (∀ j, j < (stem k).length → ((s.toList.getD j 0).toNat : Int) = (((stem k).getD j 0).toNat - 32 : Int) % 256) ↔ (∀ j, j < (stem k).length → ((s.toList.getD j 0).toNat : Int) = ((upp (stem k)).getD j 0).toNat) :=
    forall_congr' fun j => forall_congr' fun hj => by rw [← (f4 ⟨j, by omega⟩ hj).1]
  rw [g2, g3]
  constructor
  · rintro ⟨h, h1 | h1 | h1⟩
    · exact .inl ⟨h, h1⟩
    · exact .inr (.inl ⟨h, h1⟩)
    · exact .inr (.inr ⟨h, h1⟩)
  · rintro (⟨h, h1⟩ | ⟨h, h1⟩ | ⟨h, h1⟩)
    · exact ⟨h, .inl h1⟩
    · exact ⟨h, .inr (.inl h1)⟩
    · exact ⟨h, .inr (.inr h1)⟩

theorem words_in : ∀ k : Fin 9, stem k ∈ words ∧ ttl (stem k) ∈ words ∧ upp (stem k) ∈ words := by decide +kernel
theorem words_out : ∀ l ∈ words, ∃ k : Fin 9, l = stem k ∨ l = ttl (stem k) ∨ l = upp (stem k) := by decide +kernel
theorem words_short : ∀ l ∈ words, l.length ≤ 5 ∧ ∀ j : Fin 5, j.val < l.length → isL (l.getD j 0).toNat = true := by decide +kernel

theorem table (s : ByteArray) : s.toList ∈ words ↔ ∃ k, k < 9 ∧ caseF s (stemS k) := by
  constructor
  · intro h
    obtain ⟨k, hk⟩ := words_out _ h
    exact ⟨k.val, k.isLt, (caseF_iff s k.val k.isLt).2 hk⟩
  · rintro ⟨k, hk, h⟩
    obtain ⟨w1, w2, w3⟩ := words_in ⟨k, hk⟩
    rcases (caseF_iff s k hk).1 h with h | h | h <;> rw [h] <;> assumption

/-- a word with a byte that is no letter, or a long one, is none of the table -/
theorem not_long {s : ByteArray} (h : 5 < s.size) : s.toList ∉ words := fun g => by
  have := (words_short _ g).1
  rw [size_toList] at this
  omega
theorem not_mark {s : ByteArray} {j : Nat} (hj : j < s.size) (h : isL (byt s j) = false) : s.toList ∉ words := fun g => by
  obtain ⟨h1, h2⟩ := words_short _ g
  rw [size_toList] at h1 h2
  have := h2 ⟨j, by omega⟩ hj
  rw [byt_list] at h
  simp only at this
  rw [this] at h
  cases h

/-- what both functions tell of s -/
def spec (s : ByteArray) : Prop := 0 < s.size ∧ isL (byt s 0) = true ∧ (∀ j, j < s.size → isB (byt s j) = true) ∧ s.toList ∉ words
end Wd
