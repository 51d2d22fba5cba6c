/-
  The tail of FnMiddleSnakeIsMiddleOfShortestScript (function 8): regions 23, 24, 25.
-/
import Derived.Test.Qxb6601047aMsEdit
import Derived.Test.Qxb6601047aMsMid
import Derived.Test.Qxb6601047aMsLaw9
import Derived.Deep.RegionWith
namespace Go.Proofs.Qxb6601047a
open Go.RowKit
set_option linter.unusedSimpArgs false
set_option linter.unusedVariables false

def Wp8 (p : List Nat) (Q : Exit → Act → World → Prop) (a : Act) (w : World) : Prop := (sub p (Try.f8.body.getD .skip)).wp Try.prog Q a w

set_option maxRecDepth 100000 in
def Fr140 (s : Nat → Value) : Act := ⟨#[s 0, s 1, s 2, s 3, s 4, s 5, s 6, s 7, s 8, s 9, s 10, s 11, s 12, s 13, s 14, s 15, s 16, s 17, s 18, s 19, s 20, s 21, s 22, s 23, s 24, s 25, s 26, s 27, s 28, s 29, s 30, s 31, s 32, s 33, s 34, s 35, s 36, s 37, s 38, s 39, s 40, s 41, s 42, s 43, s 44, s 45, s 46, s 47, s 48, s 49, s 50, s 51, s 52, s 53, s 54, s 55, s 56, s 57, s 58, s 59, s 60, s 61, s 62, s 63, s 64, s 65, s 66, s 67, s 68, s 69, s 70, s 71, s 72, s 73, s 74, s 75, s 76, s 77, s 78, s 79, s 80, s 81, s 82, s 83, s 84, s 85, s 86, s 87, s 88, s 89, s 90, s 91, s 92, s 93, s 94, s 95, s 96, s 97, s 98, s 99, s 100, s 101, s 102, s 103, s 104, s 105, s 106, s 107, s 108, s 109, s 110, s 111, s 112, s 113, s 114, s 115, s 116, s 117, s 118, s 119, s 120, s 121, s 122, s 123, s 124, s 125, s 126, s 127, s 128, s 129, s 130, s 131, s 132, s 133, s 134, s 135, s 136, s 137, s 138, s 139], []⟩

def Ok140 (a : Act) : Prop := a.tmps.size = 140 ∧ a.defers = []

set_option maxRecDepth 100000 in
theorem Fr140_eq (s : Nat → Value) : Fr140 s = ⟨((List.range 140).map s).toArray, []⟩ := rfl

theorem Fr140_of {a : Act} (h : Ok140 a) : a = Fr140 (slot a) := by
  rw [Fr140_eq]
  obtain ⟨h1, h2⟩ := h
  obtain ⟨t, d⟩ := a
  simp only at h1 h2
  subst h2
  congr 1
  apply Array.ext'
  apply List.ext_getElem?
  intro j
  by_cases hj : j < 140
  · rw [List.getElem?_map, List.getElem?_range hj]
    simp [slot, List.getD, h1, hj]
  · rw [List.getElem?_eq_none (by simp; omega), List.getElem?_eq_none (by simp; omega)]

structure S8 (ba bb n m x y u v : Nat) (dT : Int) (a : Act) : Prop where
  ok : Ok140 a
  s0 : slot a 0 = .slice (some ⟨ba, 0, none⟩) n n
  s1 : slot a 1 = .slice (some ⟨bb, 0, none⟩) m m
  s6 : slot a 6 = .int .i64 x
  s7 : slot a 7 = .int .i64 y
  s8 : slot a 8 = .int .i64 u
  s9 : slot a 9 = .int .i64 v
  s14 : slot a 14 = .int .i64 dT

set_option maxRecDepth 100000 in
set_option maxHeartbeats 1000000 in
theorem t23 {ba bb n m x y u v : Nat} {dT : Int} {A B : Int → Int} {w : World} {a : Act} {K : Act → World → Prop} {R : Ending → World → Prop}
    (hS : S8 ba bb n m x y u v dT a) (ra : Row w ba 3 n (lineV A)) (rb : Row w bb 3 m (lineV B)) (hn : n ≤ 512) (hm : m ≤ 512) (hx : x ≤ n) (hy : y ≤ m)
    (hQ : ∀ a' w', S8 ba bb n m x y u v dT a' → slot a' 15 = .int .i64 ((x : Int) + y - 2 * Lcs.S A B 0 0 x y) → Below w.heap.size w w' → K a' w') : Wp8 [1, 1, 1, 1, 1, 1, 1, 1, 1, 1, 1, 1, 1, 1, 0] (Exit.then K (bodyPost Try.prog Try.f8 R)) a w := by
  unfold Wp8
  conv => arg 2; whnf
  have rax : Reads w ba 0 x (lineV A) := fun i hi => ra.reads i (by omega)
  have rby : Reads w bb 0 y (lineV B) := fun i hi => rb.reads i (by omega)
  obtain ⟨ok, s0, s1, s6, s7, s8, s9, s14⟩ := hS
  rw [Fr140_of ok]
  generalize slot a = s at *
  unfold Fr140
  simp only [s0, s1, s6, s7, s8, s9, s14]
  clear s0 s1 s6 s7 s8 s9 s14 ok
  go_region_with (go_at_call 27; refine (edit_any ba 0 x n bb 0 y m A B _ (by exact ra.lt) (by exact rb.lt) (by omega) (by omega) (by exact rax) (by exact rby)).mono ?_; rintro e w6 ⟨rfl, bel6⟩)
  all_goals
    have hb : Below w.heap.size w w6 := ⟨bel6.os, bel6.tape, bel6.output, bel6.size, bel6.block⟩
    simp only [Exit.then]
    exact hQ _ _ ⟨⟨rfl, rfl⟩, rfl, rfl, rfl, rfl, rfl, rfl, rfl⟩ rfl hb

set_option maxRecDepth 100000 in
set_option maxHeartbeats 1000000 in
theorem t25 {ba bb n m x y u v : Nat} {dT pre post : Int} {w : World} {a : Act} {R : Ending → World → Prop}
    (hS : S8 ba bb n m x y u v dT a) (s15 : slot a 15 = .int .i64 pre) (s16 : slot a 16 = .int .i64 post) (h1 : pre + post = dT) (h2 : pre = (dT + 1) / 2) (h3 : 0 ≤ dT) (h4 : dT ≤ 100000)
    (hR : R (.returned (.bool true)) w) : Wp8 [1, 1, 1, 1, 1, 1, 1, 1, 1, 1, 1, 1, 1, 1, 1, 1] (bodyPost Try.prog Try.f8 R) a w := by
  unfold Wp8
  conv => arg 2; whnf
  have q1 : (pre + post == dT) = true := by simpa using h1
  have q2 : (pre == (dT + 1) / 2) = true := by simpa using h2
  have q3 : -100000 ≤ pre := by omega
  have q4 : pre ≤ 100000 := by omega
  have q5 : -200000 ≤ post := by omega
  have q6 : post ≤ 200000 := by omega
  obtain ⟨ok, s0, s1, s6, s7, s8, s9, s14⟩ := hS
  rw [Fr140_of ok]
  generalize slot a = s at *
  unfold Fr140
  simp only [s0, s1, s6, s7, s8, s9, s14, s15, s16]
  clear s0 s1 s6 s7 s8 s9 s14 s15 s16 ok h1 h2
  go_wp2
  exact hR

theorem edit_tail {ba bb n m u v : Nat} {A B : Int → Int} (hn : n ≤ 512) (hm : m ≤ 512) (hx : u ≤ n) (hy : v ≤ m) (w : World) (ra : Row w ba 3 n (lineV A)) (rb : Row w bb 3 m (lineV B)) :
    Calls Try.prog 27 #[.slice (if n = u then some ⟨ba, 0, none⟩ else some ⟨ba, u, none⟩) (n - u) (n - u), .slice (if m = v then some ⟨bb, 0, none⟩ else some ⟨bb, v, none⟩) (m - v) (m - v)] w fun e w' =>
      e = .returned (.int .i64 (((n - u : Nat) : Int) + ((m - v : Nat) : Int) - 2 * Lcs.S A B u v (n - u) (m - v))) ∧ Below w.heap.size w w' := by
  rw [Lcs.S_shift A B u v (n - u) (m - v)]
  have e1 : (if n = u then some (⟨ba, 0, none⟩ : Addr) else some ⟨ba, u, none⟩) = some ⟨ba, if n = u then 0 else u, none⟩ := by split <;> rfl
  have e2 : (if m = v then some (⟨bb, 0, none⟩ : Addr) else some ⟨bb, v, none⟩) = some ⟨bb, if m = v then 0 else v, none⟩ := by split <;> rfl
  rw [e1, e2]
  refine edit_any ba _ (n - u) _ bb _ (m - v) _ (fun t => A (u + t)) (fun t => B (v + t)) w ra.lt rb.lt (by omega) (by omega) (fun i hi => ?_) (fun i hi => ?_)
  · rw [if_neg (by omega), ra.cell (u + i) (by omega)]
    simp [lineV]
  · rw [if_neg (by omega), rb.cell (v + i) (by omega)]
    simp [lineV]

set_option maxRecDepth 100000 in
set_option maxHeartbeats 1000000 in
theorem t24 {ba bb n m x y u v : Nat} {dT pre : Int} {A B : Int → Int} {w : World} {a : Act} {K : Act → World → Prop} {R : Ending → World → Prop}
    (hS : S8 ba bb n m x y u v dT a) (s15 : slot a 15 = .int .i64 pre) (ra : Row w ba 3 n (lineV A)) (rb : Row w bb 3 m (lineV B)) (hn : n ≤ 512) (hm : m ≤ 512) (hx : u ≤ n) (hy : v ≤ m)
    (hQ : ∀ a' w', S8 ba bb n m x y u v dT a' → slot a' 15 = .int .i64 pre → slot a' 16 = .int .i64 (((n - u : Nat) : Int) + ((m - v : Nat) : Int) - 2 * Lcs.S A B u v (n - u) (m - v)) → Below w.heap.size w w' → K a' w') : Wp8 [1, 1, 1, 1, 1, 1, 1, 1, 1, 1, 1, 1, 1, 1, 1, 0] (Exit.then K (bodyPost Try.prog Try.f8 R)) a w := by
  unfold Wp8
  conv => arg 2; whnf
  obtain ⟨ok, s0, s1, s6, s7, s8, s9, s14⟩ := hS
  rw [Fr140_of ok]
  generalize slot a = s at *
  unfold Fr140
  simp only [s0, s1, s6, s7, s8, s9, s14, s15]
  clear s0 s1 s6 s7 s8 s9 s14 s15 ok
  by_cases e1 : n = u
  · subst e1
    by_cases e2 : m = v
    · subst e2
      have H : ∀ W : World, Row W ba 3 n (lineV A) → Row W bb 3 m (lineV B) → _ := fun W ha hb => edit_tail hn hm hx hy W ha hb
      simp only [if_pos, Nat.sub_self] at H hQ
      go_region_with (go_at_call 27; refine (H _ (by exact ra) (by exact rb)).mono ?_; rintro e w6 ⟨rfl, bel6⟩)
      all_goals
        have hb : Below w.heap.size w w6 := ⟨bel6.os, bel6.tape, bel6.output, bel6.size, bel6.block⟩
        simp only [Exit.then]
        refine hQ _ _ ⟨⟨rfl, rfl⟩, rfl, rfl, rfl, rfl, rfl, rfl, rfl⟩ rfl (congrArg (Value.int .i64) ?_) hb
        omega
    · have H : ∀ W : World, Row W ba 3 n (lineV A) → Row W bb 3 m (lineV B) → _ := fun W ha hb => edit_tail hn hm hx hy W ha hb
      simp only [if_pos, if_neg e2, Nat.sub_self] at H hQ
      go_region_with (go_at_call 27; refine (H _ (by exact ra) (by exact rb)).mono ?_; rintro e w6 ⟨rfl, bel6⟩)
      all_goals
        have hb : Below w.heap.size w w6 := ⟨bel6.os, bel6.tape, bel6.output, bel6.size, bel6.block⟩
        simp only [Exit.then]
        refine hQ _ _ ⟨⟨rfl, rfl⟩, rfl, rfl, rfl, rfl, rfl, rfl, rfl⟩ rfl (congrArg (Value.int .i64) ?_) hb
        omega
  · by_cases e2 : m = v
    · subst e2
      have H : ∀ W : World, Row W ba 3 n (lineV A) → Row W bb 3 m (lineV B) → _ := fun W ha hb => edit_tail hn hm hx hy W ha hb
      simp only [if_pos, if_neg e1, Nat.sub_self] at H hQ
      go_region_with (go_at_call 27; refine (H _ (by exact ra) (by exact rb)).mono ?_; rintro e w6 ⟨rfl, bel6⟩)
      all_goals
        have hb : Below w.heap.size w w6 := ⟨bel6.os, bel6.tape, bel6.output, bel6.size, bel6.block⟩
        simp only [Exit.then]
        refine hQ _ _ ⟨⟨rfl, rfl⟩, rfl, rfl, rfl, rfl, rfl, rfl, rfl⟩ rfl (congrArg (Value.int .i64) ?_) hb
        omega
    · have H : ∀ W : World, Row W ba 3 n (lineV A) → Row W bb 3 m (lineV B) → _ := fun W ha hb => edit_tail hn hm hx hy W ha hb
      simp only [if_neg e1, if_neg e2] at H hQ
      go_region_with (go_at_call 27; refine (H _ (by exact ra) (by exact rb)).mono ?_; rintro e w6 ⟨rfl, bel6⟩)
      all_goals
        have hb : Below w.heap.size w w6 := ⟨bel6.os, bel6.tape, bel6.output, bel6.size, bel6.block⟩
        simp only [Exit.then]
        refine hQ _ _ ⟨⟨rfl, rfl⟩, rfl, rfl, rfl, rfl, rfl, rfl, rfl⟩ rfl (congrArg (Value.int .i64) ?_) hb
        omega

end Go.Proofs.Qxb6601047a
