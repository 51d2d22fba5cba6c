/-
  LONGEST COMMON SUBSEQUENCES BY THE CLASSICAL TABLE, AND THE DISTANCES THAT COME OF THEM: plain, no Go in sight.
-/
namespace Go.Proofs.Qxb6601047a.Lcs

/-- the next row of the table: a is the line of the first list that comes to it, B from j on the second list -/
def lrow (prev : Nat → Int) (a : Int) (B : Int → Int) (j : Int) : Nat → Int
  | 0 => 0
  | q + 1 => if a = B (j + q) then prev q + 1 else max (lrow prev a B j q) (prev (q + 1))

/-- S A B i j p q: the length of a longest common subsequence of A[i .. i+p) and B[j .. j+q) -/
def S (A B : Int → Int) (i j : Int) : Nat → Nat → Int
  | 0 => fun _ => 0
  | p + 1 => lrow (S A B i j p) (A (i + p)) B j

section
variable {A B : Int → Int} {i j : Int}
theorem S_zl (q : Nat) : S A B i j 0 q = 0 := rfl
theorem S_zr (p : Nat) : S A B i j p 0 = 0 := by cases p <;> rfl
theorem S_ss (p q : Nat) : S A B i j (p + 1) (q + 1) = if A (i + p) = B (j + q) then S A B i j p q + 1 else max (S A B i j (p + 1) q) (S A B i j p (q + 1)) := rfl
theorem S_eq {p q : Nat} (h : A (i + p) = B (j + q)) : S A B i j (p + 1) (q + 1) = S A B i j p q + 1 := by rw [S_ss, if_pos h]
theorem S_ne {p q : Nat} (h : ¬ A (i + p) = B (j + q)) : S A B i j (p + 1) (q + 1) = max (S A B i j (p + 1) q) (S A B i j p (q + 1)) := by rw [S_ss, if_neg h]

theorem S_bds : ∀ (N p q : Nat), p + q ≤ N → S A B i j p q ≤ S A B i j (p + 1) q ∧ S A B i j p q ≤ S A B i j p (q + 1) ∧ S A B i j (p + 1) (q + 1) ≤ S A B i j p q + 1 ∧ 0 ≤ S A B i j p q
  | N, 0, 0, _ => by
    refine ⟨?_, ?_, ?_, ?_⟩
    · rw [S_zr, S_zr]; exact Int.le_refl _
    · rw [S_zl, S_zl]; exact Int.le_refl _
    · rw [S_ss, S_zl, S_zl, S_zr]; split <;> omega
    · rw [S_zl]; exact Int.le_refl _
  | 0, p + 1, q, h => by omega
  | 0, 0, q + 1, h => by omega
  | N + 1, 0, q + 1, h => by
    obtain ⟨a1, a2, a3, a4⟩ := S_bds N 0 q (by omega)
    have e := S_ss (A := A) (B := B) (i := i) (j := j) 0 q
    have e2 := S_ss (A := A) (B := B) (i := i) (j := j) 0 (q + 1)
    simp only [S_zl] at *
    refine ⟨?_, Int.le_refl _, ?_, Int.le_refl _⟩
    · rw [e]; split <;> omega
    · rw [e2]; split <;> omega
  | N + 1, p + 1, 0, h => by
    obtain ⟨a1, a2, a3, a4⟩ := S_bds N p 0 (by omega)
    have e := S_ss (A := A) (B := B) (i := i) (j := j) p 0
    have e2 := S_ss (A := A) (B := B) (i := i) (j := j) (p + 1) 0
    simp only [S_zr] at *
    refine ⟨Int.le_refl _, ?_, ?_, Int.le_refl _⟩
    · rw [e]; split <;> omega
    · rw [e2]; split <;> omega
  | N + 1, p + 1, q + 1, h => by
    obtain ⟨a1, a2, a3, a4⟩ := S_bds N p q (by omega)
    obtain ⟨b1, b2, b3, b4⟩ := S_bds N p (q + 1) (by omega)
    obtain ⟨c1, c2, c3, c4⟩ := S_bds N (p + 1) q (by omega)
    have m1 : S A B i j (p + 1) (q + 1) ≤ S A B i j (p + 2) (q + 1) := by
      rw [S_ss (p + 1) q]; split <;> omega
    have m2 : S A B i j (p + 1) (q + 1) ≤ S A B i j (p + 1) (q + 2) := by
      rw [S_ss p (q + 1)]; split <;> omega
    refine ⟨m1, m2, ?_, by omega⟩
    rw [S_ss (p + 1) (q + 1)]
    split <;> omega

theorem S_m1 (p q : Nat) : S A B i j p q ≤ S A B i j (p + 1) q := (S_bds (p + q) p q (Nat.le_refl _)).1
theorem S_m2 (p q : Nat) : S A B i j p q ≤ S A B i j p (q + 1) := (S_bds (p + q) p q (Nat.le_refl _)).2.1
theorem S_dg (p q : Nat) : S A B i j (p + 1) (q + 1) ≤ S A B i j p q + 1 := (S_bds (p + q) p q (Nat.le_refl _)).2.2.1
theorem S_nn (p q : Nat) : 0 ≤ S A B i j p q := (S_bds (p + q) p q (Nat.le_refl _)).2.2.2
theorem S_u1 (p q : Nat) : S A B i j (p + 1) q ≤ S A B i j p q + 1 := Int.le_trans (S_m2 (p + 1) q) (S_dg p q)
theorem S_u2 (p q : Nat) : S A B i j p (q + 1) ≤ S A B i j p q + 1 := Int.le_trans (S_m1 p (q + 1)) (S_dg p q)
theorem S_le1 : ∀ (p q : Nat), S A B i j p q ≤ p
  | 0, q => by rw [S_zl]; omega
  | p + 1, q => by have := S_le1 p q; have := S_u1 (A := A) (B := B) (i := i) (j := j) p q; omega
theorem S_le2 : ∀ (p q : Nat), S A B i j p q ≤ q
  | p, 0 => by rw [S_zr]; omega
  | p, q + 1 => by have := S_le2 p q; have := S_u2 (A := A) (B := B) (i := i) (j := j) p q; omega
theorem S_m2' (p q : Nat) : ∀ r, S A B i j p q ≤ S A B i j p (q + r)
  | 0 => Int.le_refl _
  | r + 1 => Int.le_trans (S_m2' p q r) (S_m2 p (q + r))
theorem S_m1' (p q : Nat) : ∀ r, S A B i j p q ≤ S A B i j (p + r) q
  | 0 => Int.le_refl _
  | r + 1 => Int.le_trans (S_m1' p q r) (S_m1 (p + r) q)
end

/-- THE TABLE FROM THE OTHER END: the first lines of both -/
def front (A B : Int → Int) (i j : Int) (p q : Nat) : Int :=
  if A i = B j then S A B (i + 1) (j + 1) p q + 1 else max (S A B (i + 1) j p (q + 1)) (S A B i (j + 1) (p + 1) q)

theorem S_front (A B : Int → Int) : ∀ (N p q : Nat) (i j : Int), p + q ≤ N → S A B i j (p + 1) (q + 1) = front A B i j p q
  | N, 0, 0, i, j, _ => by
    unfold front
    rw [S_ss, S_zl, S_zl, S_zl, S_zl, S_zr, S_zr]
    simp
  | 0, p + 1, q, _, _, h => by omega
  | 0, 0, q + 1, _, _, h => by omega
  | N + 1, 0, q + 1, i, j, h => by
    have ih := S_front A B N 0 q i j (by omega)
    have e1 := S_ss (A := A) (B := B) (i := i) (j := j) 0 (q + 1)
    have e2 := S_ss (A := A) (B := B) (i := i) (j := j + 1) 0 q
    have x1 : i + ((0 : Nat) : Int) = i := by omega
    have x2 : j + 1 + (q : Int) = j + ((q + 1 : Nat) : Int) := by omega
    rw [x1, x2] at e2
    rw [x1] at e1
    unfold front at ih ⊢
    rw [e1]
    simp only [S_zl] at *
    by_cases h1 : A i = B (j + ((q + 1 : Nat) : Int))
    · rw [if_pos h1]
      rw [if_pos h1] at e2
      by_cases h2 : A i = B j
      · rw [if_pos h2]
      · rw [if_neg h2, e2]; omega
    · rw [if_neg h1]
      rw [if_neg h1] at e2
      rw [ih]
      by_cases h2 : A i = B j
      · rw [if_pos h2, if_pos h2]; omega
      · rw [if_neg h2, if_neg h2, e2]; omega
  | N + 1, p + 1, 0, i, j, h => by
    have ih := S_front A B N p 0 i j (by omega)
    have e1 := S_ss (A := A) (B := B) (i := i) (j := j) (p + 1) 0
    have e2 := S_ss (A := A) (B := B) (i := i + 1) (j := j) p 0
    have x1 : j + ((0 : Nat) : Int) = j := by omega
    have x2 : i + 1 + (p : Int) = i + ((p + 1 : Nat) : Int) := by omega
    rw [x1, x2] at e2
    rw [x1] at e1
    unfold front at ih ⊢
    rw [e1]
    simp only [S_zr] at *
    by_cases h1 : A (i + ((p + 1 : Nat) : Int)) = B j
    · rw [if_pos h1]
      rw [if_pos h1] at e2
      by_cases h2 : A i = B j
      · rw [if_pos h2]
      · rw [if_neg h2, e2]; omega
    · rw [if_neg h1]
      rw [if_neg h1] at e2
      rw [ih]
      by_cases h2 : A i = B j
      · rw [if_pos h2, if_pos h2]; omega
      · rw [if_neg h2, if_neg h2, e2]; omega
  | N + 1, p + 1, q + 1, i, j, h => by
    have ih0 := S_front A B N p q i j (by omega)
    have ih1 := S_front A B N p (q + 1) i j (by omega)
    have ih2 := S_front A B N (p + 1) q i j (by omega)
    have x1 : i + 1 + (p : Int) = i + ((p + 1 : Nat) : Int) := by omega
    have x2 : j + 1 + (q : Int) = j + ((q + 1 : Nat) : Int) := by omega
    have e0 := S_ss (A := A) (B := B) (i := i) (j := j) (p + 1) (q + 1)
    have e1 := S_ss (A := A) (B := B) (i := i + 1) (j := j + 1) p q
    have e2 := S_ss (A := A) (B := B) (i := i + 1) (j := j) p (q + 1)
    have e3 := S_ss (A := A) (B := B) (i := i) (j := j + 1) (p + 1) q
    rw [x1, x2] at e1
    rw [x1] at e2
    rw [x2] at e3
    unfold front at ih0 ih1 ih2 ⊢
    by_cases h1 : A (i + ((p + 1 : Nat) : Int)) = B (j + ((q + 1 : Nat) : Int))
    · rw [if_pos h1] at e0 e1 e2 e3
      by_cases h2 : A i = B j
      · rw [if_pos h2] at ih0 ih1 ih2 ⊢; omega
      · rw [if_neg h2] at ih0 ih1 ih2 ⊢; omega
    · rw [if_neg h1] at e0 e1 e2 e3
      by_cases h2 : A i = B j
      · rw [if_pos h2] at ih0 ih1 ih2 ⊢; omega
      · rw [if_neg h2] at ih0 ih1 ih2 ⊢; omega

/-- two common subsequences, one behind the other -/
theorem S_add (A B : Int → Int) (i j : Nat) : ∀ (N p q : Nat), p + q ≤ N → S A B 0 0 i j + S A B i j p q ≤ S A B 0 0 (i + p) (j + q)
  | N, 0, q, _ => by
    rw [S_zl, Nat.add_zero]
    have := S_m2' (A := A) (B := B) (i := 0) (j := 0) i j q
    omega
  | N, p + 1, 0, _ => by
    rw [S_zr]
    show _ ≤ S A B 0 0 (i + (p + 1)) j
    have := S_m1' (A := A) (B := B) (i := 0) (j := 0) i j (p + 1)
    omega
  | 0, p + 1, q + 1, h => by omega
  | N + 1, p + 1, q + 1, h => by
    have a1 := S_add A B i j N p q (by omega)
    have a2 := S_add A B i j N (p + 1) q (by omega)
    have a3 := S_add A B i j N p (q + 1) (by omega)
    have e1 := S_ss (A := A) (B := B) (i := i) (j := j) p q
    have e2 := S_ss (A := A) (B := B) (i := 0) (j := 0) (i + p) (j + q)
    have x1 : (0 : Int) + ((i + p : Nat) : Int) = (i : Int) + (p : Int) := by omega
    have x2 : (0 : Int) + ((j + q : Nat) : Int) = (j : Int) + (q : Int) := by omega
    rw [x1, x2] at e2
    have y1 : i + (p + 1) = i + p + 1 := by omega
    have y2 : j + (q + 1) = j + q + 1 := by omega
    rw [y1] at a2 ⊢
    rw [y2] at a3 ⊢
    by_cases h1 : A ((i : Int) + p) = B ((j : Int) + q)
    · rw [if_pos h1] at e1 e2; omega
    · rw [if_neg h1] at e1 e2; omega

/-- shifted lists -/
theorem S_shift (A B : Int → Int) (i j : Int) : ∀ (p q : Nat), S A B i j p q = S (fun t => A (i + t)) (fun t => B (j + t)) 0 0 p q
  | 0, q => rfl
  | p + 1, 0 => rfl
  | p + 1, q + 1 => by
    rw [S_ss, S_ss, S_shift A B i j p q, S_shift A B i j (p + 1) q, S_shift A B i j p (q + 1)]
    have x1 : i + (0 + (p : Int)) = i + p := by omega
    have x2 : j + (0 + (q : Int)) = j + q := by omega
    simp only [x1, x2]

/-- the lists read from their ends -/
theorem S_rev (A B : Int → Int) (n m : Int) : ∀ (N p q : Nat) (i j : Int), p + q ≤ N →
    S A B i j p q = S (fun t => A (n - 1 - t)) (fun t => B (m - 1 - t)) (n - i - p) (m - j - q) p q
  | N, 0, q, _, _, _ => rfl
  | N, p + 1, 0, _, _, _ => rfl
  | 0, p + 1, q + 1, _, _, h => by omega
  | N + 1, p + 1, q + 1, i, j, h => by
    rw [S_front A B (p + q) p q i j (Nat.le_refl _), S_ss]
    unfold front
    rw [S_rev A B n m N p q (i + 1) (j + 1) (by omega), S_rev A B n m N p (q + 1) (i + 1) j (by omega), S_rev A B n m N (p + 1) q i (j + 1) (by omega)]
    have x1 : n - 1 - (n - i - ((p + 1 : Nat) : Int) + p) = i := by omega
    have x2 : m - 1 - (m - j - ((q + 1 : Nat) : Int) + q) = j := by omega
    have y1 : n - (i + 1) - (p : Int) = n - i - ((p + 1 : Nat) : Int) := by omega
    have y2 : m - (j + 1) - (q : Int) = m - j - ((q + 1 : Nat) : Int) := by omega
    simp only [x1, x2, y1, y2]
    split
    · rfl
    · omega

end Go.Proofs.Qxb6601047a.Lcs
