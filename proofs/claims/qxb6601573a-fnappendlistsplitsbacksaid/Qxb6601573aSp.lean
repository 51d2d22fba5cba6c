/-
  The second half of FnAppendListSplitsBack (6): its two loops, over an abstract frame.
-/
import Derived.Test.Qxb6601573aSplit
import Derived.Test.Qxb6601573aLaw5
namespace Go.Proofs.Qxb6601573a
open Go.RowKit
set_option linter.unusedSimpArgs false
set_option linter.unusedVariables false

def child : Code → Nat → Code
  | .seq a _, 0 => a
  | .seq _ b, _ => b
  | .cond _ a _, 0 => a
  | .cond _ _ b, _ => b
  | .block _ c, _ => c
  | .loop c, _ => c
  | c, _ => c
def sub : List Nat → Code → Code
  | [], c => c
  | i :: p, c => sub p (child c i)
def slot (a : Act) (i : Nat) : Value := a.tmps.toList.getD i undef

theorem wp_mid {P : Program} {Q : Exit → Act → World → Prop} {a : Act} {w : World} {x y : Code} (R : Act → World → Prop)
    (h : x.wp P (Exit.then R Q) a w) (h2 : ∀ a w, R a w → y.wp P Q a w) : (Code.seq x y).wp P Q a w :=
  wp_seq (wp_mono h (fun e a w hq => by cases e <;> first | exact h2 _ _ hq | exact hq))

def Wp6 (p : List Nat) (Q : Exit → Act → World → Prop) (a : Act) (w : World) : Prop := (sub p (Try.f6.body.getD .skip)).wp Try.prog Q a w

set_option maxRecDepth 100000 in
def Fr145 (s : Nat → Value) : Act := ⟨#[s 0, s 1, s 2, s 3, s 4, s 5, s 6, s 7, s 8, s 9, s 10, s 11, s 12, s 13, s 14, s 15, s 16, s 17, s 18, s 19, s 20, s 21, s 22, s 23, s 24, s 25, s 26, s 27, s 28, s 29, s 30, s 31, s 32, s 33, s 34, s 35, s 36, s 37, s 38, s 39, s 40, s 41, s 42, s 43, s 44, s 45, s 46, s 47, s 48, s 49, s 50, s 51, s 52, s 53, s 54, s 55, s 56, s 57, s 58, s 59, s 60, s 61, s 62, s 63, s 64, s 65, s 66, s 67, s 68, s 69, s 70, s 71, s 72, s 73, s 74, s 75, s 76, s 77, s 78, s 79, s 80, s 81, s 82, s 83, s 84, s 85, s 86, s 87, s 88, s 89, s 90, s 91, s 92, s 93, s 94, s 95, s 96, s 97, s 98, s 99, s 100, s 101, s 102, s 103, s 104, s 105, s 106, s 107, s 108, s 109, s 110, s 111, s 112, s 113, s 114, s 115, s 116, s 117, s 118, s 119, s 120, s 121, s 122, s 123, s 124, s 125, s 126, s 127, s 128, s 129, s 130, s 131, s 132, s 133, s 134, s 135, s 136, s 137, s 138, s 139, s 140, s 141, s 142, s 143, s 144], []⟩

def Ok145 (a : Act) : Prop := a.tmps.size = 145 ∧ a.defers = []

set_option maxRecDepth 100000 in
theorem Fr145_eq (s : Nat → Value) : Fr145 s = ⟨((List.range 145).map s).toArray, []⟩ := rfl

theorem Fr145_of {a : Act} (h : Ok145 a) : a = Fr145 (slot a) := by
  rw [Fr145_eq]
  obtain ⟨h1, h2⟩ := h
  obtain ⟨t, d⟩ := a
  simp only at h1 h2
  subst h2
  congr 1
  apply Array.ext'
  apply List.ext_getElem?
  intro j
  by_cases hj : j < 145
  · rw [List.getElem?_map, List.getElem?_range hj]
    simp [slot, List.getD, h1, hj]
  · rw [List.getElem?_eq_none (by simp; omega), List.getElem?_eq_none (by simp; omega)]



structure S6 (gL gg n m TL cT : Nat) (key : ByteArray) (a : Act) : Prop where
  ok : Ok145 a
  s1 : slot a 1 = .string key
  s2 : slot a 2 = .slice (some ⟨gL, 0, none⟩) m m
  s9 : slot a 9 = .slice (some ⟨gg, n, none⟩) TL cT

set_option maxRecDepth 100000 in
set_option maxHeartbeats 1000000 in
theorem loop1 {gL gg n m TL cT : Nat} {key : ByteArray} {w : World} {a : Act} {Q : Exit → Act → World → Prop} (hS : S6 gL gg n m TL cT key a) (s10 : slot a 10 = .int .i64 1)
    (hTL : key.size + 2 ≤ TL) (hT2 : TL ≤ 4194304) (hn : n ≤ 1048576)
    (hkey : ∀ j, 1 ≤ j → j < key.size + 1 → ∃ z : Int, w.cell? ⟨gg, n + j, none⟩ = some (.int .u8 z) ∧ (z != 61) = true)
    (heq : w.cell? ⟨gg, n + (key.size + 1), none⟩ = some (.int .u8 61))
    (hQ : ∀ a', S6 gL gg n m TL cT key a' → slot a' 10 = .int .i64 ((key.size + 1 : Nat) : Int) → Q (.exit 0) a' w) : Wp6 [1, 1, 1, 1, 1, 1, 1, 1, 1, 1, 1, 1, 1, 1, 0, 0] Q a w := by
  unfold Wp6
  conv => arg 2; whnf
  refine wp_loop (fun a w' => w' = w ∧ ∃ k : Nat, 1 ≤ k ∧ k ≤ key.size + 1 ∧ S6 gL gg n m TL cT key a ∧ slot a 10 = .int .i64 k) (fun a _ => ((key.size + 1 : Nat) - intOf (slot a 10)).toNat)
    ⟨rfl, 1, by omega, by omega, hS, s10⟩ ?_
  clear hS s10 a
  rintro a w' ⟨rfl, k, hk1, hk2, hS, s10⟩
  have hmu : intOf (slot a 10) = k := by rw [s10]; rfl
  rw [hmu]
  clear hmu
  obtain ⟨ok, s1, s2, s9⟩ := hS
  rw [Fr145_of ok]
  generalize slot a = s at *
  unfold Fr145
  simp only [s1, s2, s9, s10]
  clear s1 s2 s9 s10 ok
  have hd : decide ((k : Int) < TL) = true := by rw [decide_eq_true_eq]; omega
  by_cases hlt : k < key.size + 1
  · obtain ⟨z, g1, g2⟩ := hkey k hk1 hlt
    clear heq
    go_wp2_with fail
    refine ⟨⟨by trivial, k + 1, by omega, by omega, ⟨⟨rfl, rfl⟩, rfl, rfl, rfl⟩, rfl⟩, ?_⟩
    show (((key.size + 1 : Nat) : Int) - intOf (Value.int .i64 ((k : Int) + 1))).toNat < _
    simp only [intOf]
    omega
  · obtain rfl : k = key.size + 1 := by omega
    clear hkey
    go_wp2_with fail
    exact hQ _ ⟨⟨rfl, rfl⟩, rfl, rfl, rfl⟩ rfl
