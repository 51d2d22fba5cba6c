/-
  THE DISTANCES FROM THE START AND TO THE END: plain, no Go in sight.
-/
import Derived.Test.Qxb6601047aMsLcs
import Derived.Test.Qxb6601047aMsSafe
namespace Go.Proofs.Qxb6601047a.Ms
open Lcs

/-- the fewest lines passed from (0, 0) to (x, y) -/
def Dd (A B : Int → Int) (x y : Int) : Int := x + y - 2 * S A B 0 0 x.toNat y.toNat

section
variable {A B : Int → Int} {x y : Int}
theorem D_match (hx : 0 ≤ x) (hy : 0 ≤ y) (h : A x = B y) : Dd A B (x + 1) (y + 1) = Dd A B x y := by
  unfold Dd
  rw [show (x + 1).toNat = x.toNat + 1 from by omega, show (y + 1).toNat = y.toNat + 1 from by omega,
    S_eq (by rw [show (0 : Int) + (x.toNat : Nat) = x from by omega, show (0 : Int) + (y.toNat : Nat) = y from by omega]; exact h)]
  omega
theorem D_mis (hx : 0 ≤ x) (hy : 0 ≤ y) (h : ¬ A x = B y) : Dd A B (x + 1) (y + 1) = 1 + min (Dd A B x (y + 1)) (Dd A B (x + 1) y) := by
  unfold Dd
  rw [show (x + 1).toNat = x.toNat + 1 from by omega, show (y + 1).toNat = y.toNat + 1 from by omega,
    S_ne (by rw [show (0 : Int) + (x.toNat : Nat) = x from by omega, show (0 : Int) + (y.toNat : Nat) = y from by omega]; exact h)]
  omega
theorem D_diag (hx : 0 ≤ x) (hy : 0 ≤ y) : Dd A B x y ≤ Dd A B (x + 1) (y + 1) := by
  unfold Dd
  rw [show (x + 1).toNat = x.toNat + 1 from by omega, show (y + 1).toNat = y.toNat + 1 from by omega]
  have := S_dg (A := A) (B := B) (i := 0) (j := 0) x.toNat y.toNat
  omega
theorem D_x (hx : 0 ≤ x) : Dd A B (x + 1) y ≤ Dd A B x y + 1 ∧ Dd A B x y ≤ Dd A B (x + 1) y + 1 := by
  unfold Dd
  rw [show (x + 1).toNat = x.toNat + 1 from by omega]
  have := S_m1 (A := A) (B := B) (i := 0) (j := 0) x.toNat y.toNat
  have := S_u1 (A := A) (B := B) (i := 0) (j := 0) x.toNat y.toNat
  omega
theorem D_y (hy : 0 ≤ y) : Dd A B x (y + 1) ≤ Dd A B x y + 1 ∧ Dd A B x y ≤ Dd A B x (y + 1) + 1 := by
  unfold Dd
  rw [show (y + 1).toNat = y.toNat + 1 from by omega]
  have := S_m2 (A := A) (B := B) (i := 0) (j := 0) x.toNat y.toNat
  have := S_u2 (A := A) (B := B) (i := 0) (j := 0) x.toNat y.toNat
  omega
theorem D_abs (hx : 0 ≤ x) (hy : 0 ≤ y) : x - y ≤ Dd A B x y ∧ y - x ≤ Dd A B x y := by
  unfold Dd
  have := S_le1 (A := A) (B := B) (i := 0) (j := 0) x.toNat y.toNat
  have := S_le2 (A := A) (B := B) (i := 0) (j := 0) x.toNat y.toNat
  omega
theorem D_par (A B : Int → Int) (x y : Int) : (Dd A B x y - (x + y)) % 2 = 0 := by unfold Dd; omega
theorem D_0y (A B : Int → Int) (y : Int) : Dd A B 0 y = y := by
  unfold Dd
  rw [show (0 : Int).toNat = 0 from rfl, S_zl]
  omega
theorem D_x0 (A B : Int → Int) (x : Int) : Dd A B x 0 = x := by
  unfold Dd
  rw [show (0 : Int).toNat = 0 from rfl, S_zr]
  omega
theorem D_mono (A B : Int → Int) (k : Int) : ∀ (r : Nat) (x : Int), 0 ≤ x → 0 ≤ x - k → Dd A B x (x - k) ≤ Dd A B (x + r) (x + r - k)
  | 0, x, _, _ => by rw [show x + ((0 : Nat) : Int) = x from by omega]; exact Int.le_refl _
  | r + 1, x, h1, h2 => by
    have a := D_mono A B k r x h1 h2
    have b := D_diag (A := A) (B := B) (x := x + r) (y := x + r - k) (by omega) (by omega)
    rw [show x + ((r + 1 : Nat) : Int) = x + r + 1 from by omega, show x + (r : Int) + 1 - k = x + r - k + 1 from by omega]
    exact Int.le_trans a b
theorem D_le (A B : Int → Int) {k x x' : Int} (h1 : 0 ≤ x) (h2 : 0 ≤ x - k) (h : x ≤ x') : Dd A B x (x - k) ≤ Dd A B x' (x' - k) := by
  have := D_mono A B k (x' - x).toNat x h1 h2
  rwa [show x + ((x' - x).toNat : Int) = x' from by omega] at this
end

def Pm.D (p : Pm) (x y : Int) : Int := Dd p.A p.B x y
def Pm.rA (p : Pm) : Int → Int := fun t => p.A (p.n - 1 - t)
def Pm.rB (p : Pm) : Int → Int := fun t => p.B (p.m - 1 - t)
/-- the fewest lines passed from (x, y) to (n, m) -/
def Pm.E (p : Pm) (x y : Int) : Int := Dd p.rA p.rB (p.n - x) (p.m - y)
/-- the cheapest whole script -/
def Pm.T (p : Pm) : Int := p.D p.n p.m

section
variable {p : Pm} {x y : Int}
theorem E_match (hx : x < p.n) (hy : y < p.m) (h : p.A x = p.B y) : p.E x y = p.E (x + 1) (y + 1) := by
  unfold Pm.E
  have := D_match (A := p.rA) (B := p.rB) (x := p.n - (x + 1)) (y := p.m - (y + 1)) (by omega) (by omega) (by
    unfold Pm.rA Pm.rB
    rw [show p.n - 1 - (p.n - (x + 1)) = x from by omega, show p.m - 1 - (p.m - (y + 1)) = y from by omega]; exact h)
  rw [show p.n - (x + 1) + 1 = p.n - x from by omega, show p.m - (y + 1) + 1 = p.m - y from by omega] at this
  exact this
theorem E_mis (hx : x < p.n) (hy : y < p.m) (h : ¬ p.A x = p.B y) : p.E x y = 1 + min (p.E (x + 1) y) (p.E x (y + 1)) := by
  unfold Pm.E
  have := D_mis (A := p.rA) (B := p.rB) (x := p.n - (x + 1)) (y := p.m - (y + 1)) (by omega) (by omega) (by
    unfold Pm.rA Pm.rB
    rw [show p.n - 1 - (p.n - (x + 1)) = x from by omega, show p.m - 1 - (p.m - (y + 1)) = y from by omega]; exact h)
  rw [show p.n - (x + 1) + 1 = p.n - x from by omega, show p.m - (y + 1) + 1 = p.m - y from by omega] at this
  exact this
theorem E_x (hx : x < p.n) : p.E (x + 1) y ≤ p.E x y + 1 ∧ p.E x y ≤ p.E (x + 1) y + 1 := by
  unfold Pm.E
  have := D_x (A := p.rA) (B := p.rB) (x := p.n - (x + 1)) (y := p.m - y) (by omega)
  rw [show p.n - (x + 1) + 1 = p.n - x from by omega] at this
  omega
theorem E_y (hy : y < p.m) : p.E x (y + 1) ≤ p.E x y + 1 ∧ p.E x y ≤ p.E x (y + 1) + 1 := by
  unfold Pm.E
  have := D_y (A := p.rA) (B := p.rB) (x := p.n - x) (y := p.m - (y + 1)) (by omega)
  rw [show p.m - (y + 1) + 1 = p.m - y from by omega] at this
  omega
theorem E_abs (hx : x ≤ p.n) (hy : y ≤ p.m) : (p.n - p.m) - (x - y) ≤ p.E x y ∧ (x - y) - (p.n - p.m) ≤ p.E x y := by
  have := D_abs (A := p.rA) (B := p.rB) (x := p.n - x) (y := p.m - y) (by omega) (by omega)
  unfold Pm.E
  omega
theorem E_par (p : Pm) (x y : Int) : (p.E x y - (p.n - x + (p.m - y))) % 2 = 0 := D_par _ _ _ _
theorem E_nm (p : Pm) : p.E p.n p.m = 0 := by
  unfold Pm.E
  rw [show p.n - p.n = 0 from by omega, show p.m - p.m = 0 from by omega]
  exact D_0y _ _ _
theorem E_le {k x' : Int} (h1 : x' ≤ p.n) (h2 : x' - k ≤ p.m) (h : x ≤ x') : p.E x' (x' - k) ≤ p.E x (x - k) := by
  unfold Pm.E
  have := D_le p.rA p.rB (k := p.n - p.m - k) (x := p.n - x') (x' := p.n - x) (by omega) (by omega) (by omega)
  rw [show p.n - x' - (p.n - p.m - k) = p.m - (x' - k) from by omega, show p.n - x - (p.n - p.m - k) = p.m - (x - k) from by omega] at this
  exact this

/-- the suffixes' table -/
theorem E_suffix (h1 : x ≤ p.n) (h2 : y ≤ p.m) : p.E x y = (p.n - x) + (p.m - y) - 2 * S p.A p.B x y (p.n - x).toNat (p.m - y).toNat := by
  unfold Pm.E Dd
  have := S_rev p.A p.B p.n p.m ((p.n - x).toNat + (p.m - y).toNat) (p.n - x).toNat (p.m - y).toNat x y (Nat.le_refl _)
  rw [show p.n - x - ((p.n - x).toNat : Int) = 0 from by omega, show p.m - y - ((p.m - y).toNat : Int) = 0 from by omega] at this
  rw [this]
  rfl

theorem DE (hx0 : 0 ≤ x) (hx1 : x ≤ p.n) (hy0 : 0 ≤ y) (hy1 : y ≤ p.m) : p.T ≤ p.D x y + p.E x y := by
  rw [E_suffix hx1 hy1]
  unfold Pm.T Pm.D Dd
  have := S_add p.A p.B x.toNat y.toNat ((p.n - x).toNat + (p.m - y).toNat) (p.n - x).toNat (p.m - y).toNat (Nat.le_refl _)
  rw [show x.toNat + (p.n - x).toNat = p.n.toNat from by omega, show y.toNat + (p.m - y).toNat = p.m.toNat from by omega,
    show ((x.toNat : Nat) : Int) = x from by omega, show ((y.toNat : Nat) : Int) = y from by omega] at this
  omega

/-- a place on a cheapest way with c lines passed before it -/
theorem mid_from (c : Int) (hc : 0 ≤ c) : ∀ (N : Nat) (x y : Int), x + y ≤ N → 0 ≤ x → x ≤ p.n → 0 ≤ y → y ≤ p.m → p.D x y + p.E x y = p.T → c ≤ p.D x y →
    ∃ x' y', 0 ≤ x' ∧ x' ≤ p.n ∧ 0 ≤ y' ∧ y' ≤ p.m ∧ p.D x' y' = c ∧ p.E x' y' = p.T - c
  | N, x, y, hN, hx0, hx1, hy0, hy1, hs, hle => by
    by_cases he : p.D x y = c
    · exact ⟨x, y, hx0, hx1, hy0, hy1, he, by omega⟩
    · cases N with
      | zero =>
        exfalso
        obtain rfl : x = 0 := by omega
        obtain rfl : y = 0 := by omega
        have : p.D 0 0 = 0 := D_0y _ _ _
        omega
      | succ N =>
        by_cases hx : x = 0
        · subst hx
          have e1 : p.D 0 y = y := D_0y _ _ _
          have e2 : p.D 0 (y - 1) = y - 1 := D_0y _ _ _
          have l := E_y (p := p) (x := 0) (y := y - 1) (by omega)
          rw [show y - 1 + 1 = y from by omega] at l
          have g := DE (p := p) (x := 0) (y := y - 1) (by omega) hx1 (by omega) (by omega)
          exact mid_from c hc N 0 (y - 1) (by omega) (by omega) hx1 (by omega) (by omega) (by omega) (by omega)
        · by_cases hy : y = 0
          · subst hy
            have e1 : p.D x 0 = x := D_x0 _ _ _
            have e2 : p.D (x - 1) 0 = x - 1 := D_x0 _ _ _
            have l := E_x (p := p) (x := x - 1) (y := 0) (by omega)
            rw [show x - 1 + 1 = x from by omega] at l
            have g := DE (p := p) (x := x - 1) (y := 0) (by omega) (by omega) (by omega) hy1
            exact mid_from c hc N (x - 1) 0 (by omega) (by omega) (by omega) (by omega) hy1 (by omega) (by omega)
          · by_cases hm : p.A (x - 1) = p.B (y - 1)
            · have e1 : p.D (x - 1 + 1) (y - 1 + 1) = p.D (x - 1) (y - 1) := D_match (by omega) (by omega) hm
              have e2 := E_match (p := p) (x := x - 1) (y := y - 1) (by omega) (by omega) hm
              rw [show x - 1 + 1 = x from by omega, show y - 1 + 1 = y from by omega] at e1 e2
              exact mid_from c hc N (x - 1) (y - 1) (by omega) (by omega) (by omega) (by omega) (by omega) (by omega) (by omega)
            · have e1 : p.D (x - 1 + 1) (y - 1 + 1) = 1 + min (p.D (x - 1) (y - 1 + 1)) (p.D (x - 1 + 1) (y - 1)) := D_mis (by omega) (by omega) hm
              rw [show x - 1 + 1 = x from by omega, show y - 1 + 1 = y from by omega] at e1
              by_cases hmin : p.D (x - 1) y ≤ p.D x (y - 1)
              · have l := E_x (p := p) (x := x - 1) (y := y) (by omega)
                rw [show x - 1 + 1 = x from by omega] at l
                have g := DE (p := p) (x := x - 1) (y := y) (by omega) (by omega) hy0 hy1
                exact mid_from c hc N (x - 1) y (by omega) (by omega) (by omega) hy0 hy1 (by omega) (by omega)
              · have l := E_y (p := p) (x := x) (y := y - 1) (by omega)
                rw [show y - 1 + 1 = y from by omega] at l
                have g := DE (p := p) (x := x) (y := y - 1) hx0 hx1 (by omega) (by omega)
                exact mid_from c hc N x (y - 1) (by omega) hx0 hx1 (by omega) (by omega) (by omega) (by omega)

theorem mid (hp : p.Sized) (c : Int) (hc : 0 ≤ c) (hT : c ≤ p.T) : ∃ x' y', 0 ≤ x' ∧ x' ≤ p.n ∧ 0 ≤ y' ∧ y' ≤ p.m ∧ p.D x' y' = c ∧ p.E x' y' = p.T - c := by
  obtain ⟨n1, n2, m1, m2⟩ := hp
  refine mid_from c hc (p.n + p.m).toNat p.n p.m (by omega) (by omega) (Int.le_refl _) (by omega) (Int.le_refl _) ?_ hT
  rw [E_nm]
  show p.D p.n p.m + 0 = p.D p.n p.m
  omega
end

end Go.Proofs.Qxb6601047a.Ms
