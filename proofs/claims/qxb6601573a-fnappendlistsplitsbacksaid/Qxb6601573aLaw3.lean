/-
  The walk of FnAppendWordAgreesWithAppendList (3).
-/
import Derived.Test.Qxb6601573aSmall
namespace Go.Proofs.Qxb6601573a
open Go.RowKit
set_option linter.unusedSimpArgs false
set_option linter.unusedVariables false

theorem below_grown {w w' : World} (h : Below w.heap.size w w') : w.grownBy w' none := ⟨h.os, h.tape, h.output, h.size, fun k hk _ => h.block k hk⟩
theorem Buf.keep {w w' : World} {v : Value} {l : List Int} {o : Option Nat} (h : Buf w v l) (hg : w.grownBy w' o) (hne : v.ownBlock = none ∨ v.ownBlock ≠ o) : Buf w' v l := World.ownsRow.kept h hg hne
theorem Buf.lt {w : World} {v : Value} {l : List Int} (h : Buf w v l) : ∀ k, v.ownBlock = some k → k < w.heap.size := fun k hk => (World.ownsRow.lt h k hk).2
theorem Buf.below {w w' : World} {v : Value} {l : List Int} (h : Buf w v l) (hb : Below w.heap.size w w') : Buf w' v l := h.keep (below_grown hb) (by cases v.ownBlock <;> simp)
theorem Buf.drewN {w : World} {v : Value} {l : List Int} (h : Buf w v l) (q : Nat) : Buf (w.drewN q) v l := h
/-- two blocks, the one below B, the other from B on, are two -/
theorem blocks_ne {x y : Option Nat} {B : Nat} (hx : ∀ k, x = some k → k < B) (hy : ∀ k, y = some k → B ≤ k) : x = none ∨ x ≠ y := by
  cases x with
  | none => exact .inl rfl
  | some k =>
    right
    intro e
    have h1 := hx k rfl
    have h2 := hy k e.symm
    omega
theorem blocks_ne' {x y : Option Nat} {B : Nat} (hx : ∀ k, x = some k → B ≤ k) (hy : ∀ k, y = some k → k < B) : x = none ∨ x ≠ y := by
  cases x with
  | none => exact .inl rfl
  | some k =>
    right
    intro e
    have h1 := hx k rfl
    have h2 := hy k e.symm
    omega
theorem Evo.from {o : Option Nat} {W w : World} {v : Value} {B : Nat} (h : Evo o W w v) (ho : ∀ k, o = some k → B ≤ k) (hB : B ≤ W.heap.size) : ∀ k, v.ownBlock = some k → B ≤ k := by
  intro k hk
  rcases h.here with e | ⟨j, e, hj⟩
  · exact ho k (by rw [← e]; exact hk)
  · rw [e] at hk
    have := Option.some.inj hk
    omega

set_option maxHeartbeats 1000000 in
theorem law3 (ad : Option Addr) (b off n c : Nat) (l : List Int) (key word : ByteArray) (w : World) (hn : n ≤ maxLen) (hk : key.size ≤ maxLen) (hwd : word.size ≤ maxLen) (hL : Byts w ad b off n l) (hz : ad = none → n = 0 ∧ c = 0) :
    Calls Try.prog 3 #[.slice ad n c, .string key, .string word] w fun e w' => e = .returned (.bool true) ∧ Below w.heap.size w w' := by
  by_cases hs : n ≤ 1048576 ∧ key.size ≤ 1048576 ∧ word.size ≤ 1048576 ∧ n + key.size + word.size ≤ 1048576 ∧ ¬ word.size = 0
  · obtain ⟨hs1, hs2, hs3, hs4, hs5⟩ := hs
    have hE := str_full hs5
    have hE2 : word.toList.isEmpty = false := by rw [List.isEmpty_eq_false_iff]; exact hE
    have hll := hL.len
    go_enter Try.func3, Try.ntmps3
    go_wp2_with fail
    refine (zz7_any ad n c key word w hn hk hwd).mono ?_
    rintro e w' ⟨⟨bb, rfl⟩, rfl⟩
    cases bb with
    | false =>
      go_wp2_with fail
      go_ret
      exact ⟨rfl, Below.refl _ _⟩
    | true =>
      go_wp2_with fail
      refine (clone_any ad b off n c l w (by omega) hL hz).mono ?_
      rintro e w1 ⟨v0, rfl, hB0, hf0, hb1⟩
      go_wp2_with fail
      refine (clone_buf v0 l w1 hB0 (by omega)).mono ?_
      rintro e w2 ⟨va, rfl, hBa, hfa, hb2⟩
      have hB0' := hB0.below hb2
      go_wp2_with fail
      refine (word_any va l key word w2 hBa (by omega) hs5).mono ?_
      rintro e w3 ⟨va', rfl, hBa', hEa⟩
      have hB0'' := hB0'.keep hEa.grown (blocks_ne hB0.lt hfa)
      have hba' := hEa.from hfa hb2.size
      go_wp2_with fail
      refine (clone_buf v0 l w3 hB0'' (by omega)).mono ?_
      rintro e w4 ⟨vb, rfl, hBb, hfb, hb4⟩
      have hBa4 := hBa'.below hb4
      have hBbA : Buf (w4.alloc (.cells #[.string word] 9)) vb l := World.ownsRow.alloc hBb _
      have hBaA : Buf (w4.alloc (.cells #[.string word] 9)) va' (keyed l key ++ bs word) := World.ownsRow.alloc hBa4 _
      have hS : Strs (w4.alloc (.cells #[.string word] 9)) (some ⟨w4.heap.size, 0, none⟩) w4.heap.size 0 1 (fun _ => word) :=
        ⟨fun _ => rfl, fun i hi => by obtain rfl : i = 0 := by omega
                                      simp⟩
      have HC : Hid (Calls Try.prog 10 #[vb, .string key, .slice (some ⟨w4.heap.size, 0, none⟩) 1 1] (w4.alloc (.cells #[.string word] 9)) (Gives vb (keyed l key ++ joined (fun _ => word) 1) (w4.alloc (.cells #[.string word] 9)))) :=
        list_some vb l key _ w4.heap.size 0 1 1 (fun _ => word) _ hBbA (by omega) (by simp [joined, bs_length]; omega) hS (fun h => by have := hBb.lt _ h.symm; omega) (by omega)
      have hSz : (w4.alloc (.cells #[.string word] 9)).heap.size = w4.heap.size + 1 := by simp
      clear hS
      go_wp2_with fail
      refine HC.out.mono ?_
      rintro e w6 ⟨vb', rfl, hBb', hEb⟩
      have hBa6 := hBaA.keep hEb.grown (blocks_ne hBa'.lt hfb)
      have hj : joined (fun _ => word) 1 = bs word := by simp [joined]
      rw [hj] at hBb'
      go_wp2_with fail
      refine (same_buf va' vb' _ w6 (by simp [keyed, bs_length]; omega) hBa6 hBb').mono ?_
      rintro e w7 ⟨rfl, q, rfl⟩
      have s1 := hb1.size
      have s2 := hb2.size
      have s3 := hEa.grown.size
      have s4 := hb4.size
      have HB : Hid (Below w.heap.size w (w6.drewN q)) := by
        have p1 : Below w.heap.size w w2 := hb1.trans (hb2.mono (by omega))
        have p2 : Below w.heap.size w w3 := p1.grown hEa.grown (by omega) (fun k h => by have := hfa k h; omega)
        have p3 : Below w.heap.size w w4 := p2.trans (hb4.mono (by omega))
        have p4 : Below w.heap.size w (w4.alloc (.cells #[.string word] 9)) := p3.alloc (by omega) _
        have p5 : Below w.heap.size w w6 := p4.grown hEb.grown (by omega) (fun k h => by have := hfb k h; omega)
        exact ⟨p5.os, p5.tape, p5.output, p5.size, p5.block⟩
      clear hEb hBb' hBa6 hEa hb1 hb2 hb4
      go_wp2_with fail
      go_ret
      exact ⟨rfl, HB.out⟩
  · go_enter Try.func3, Try.ntmps3
    go_wp2_with fail
    refine (zz7_any ad n c key word w hn hk hwd).mono ?_
    rintro e w' ⟨⟨bb, rfl⟩, rfl⟩
    unfold maxLen at hn hk hwd
    cases bb with
    | false =>
      go_wp2_with fail
      go_ret
      exact ⟨rfl, Below.refl _ _⟩
    | true =>
      have hcase : 1048576 < n ∨ (n ≤ 1048576 ∧ 1048576 < key.size) ∨ (n ≤ 1048576 ∧ key.size ≤ 1048576 ∧ 1048576 < word.size) ∨ (n ≤ 1048576 ∧ key.size ≤ 1048576 ∧ word.size ≤ 1048576 ∧ 1048576 < n + key.size + word.size) ∨ (n ≤ 1048576 ∧ key.size ≤ 1048576 ∧ word.size ≤ 1048576 ∧ n + key.size + word.size ≤ 1048576 ∧ word.size = 0) := by omega
      clear hs
      rcases hcase with h1 | ⟨h1, h2⟩ | ⟨h1, h2, h3⟩ | ⟨h1, h2, h3, h4⟩ | ⟨h1, h2, h3, h4, h5⟩
      · go_wp2_with fail
        go_ret
        exact ⟨rfl, Below.refl _ _⟩
      · go_wp2_with fail
        go_ret
        exact ⟨rfl, Below.refl _ _⟩
      · go_wp2_with fail
        go_ret
        exact ⟨rfl, Below.refl _ _⟩
      · go_wp2_with fail
        go_ret
        exact ⟨rfl, Below.refl _ _⟩
      · have hE := str_empty h5
        have hE2 : word.toList.isEmpty = true := by rw [hE]; rfl
        go_wp2_with fail
        go_ret
        exact ⟨rfl, Below.refl _ _⟩
