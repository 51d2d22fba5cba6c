/-
  THE PLAIN MODEL OF middleSnake: no Go in sight.
-/
namespace Go.Proofs.Qxb6601047a
def dFirst (m mid d : Int) : Int := if mid - d < -m then mid - d + (-m - (mid - d) + 1) / 2 * 2 else mid - d
def dLast (n mid d : Int) : Int := if n < mid + d then mid + d - (mid + d - n + 1) / 2 * 2 else mid + d

namespace Ms

def updZ (F : Int → Int) (k x : Int) : Int → Int := fun j => if j = k then x else F j

/-- the end of the run of lines alike that begins at x on diagonal k (fuel first) -/
def extF (A B : Int → Int) (n m k : Int) : Nat → Int → Int
  | 0, x => x
  | f + 1, x => if x < n ∧ x - k < m ∧ A x = B (x - k) then extF A B n m k f (x + 1) else x
def snF (A B : Int → Int) (n m k x : Int) : Int := extF A B n m k (n - x).toNat x

/-- the start of the run of lines alike that ends at x on diagonal k -/
def extB (A B : Int → Int) (k : Int) : Nat → Int → Int
  | 0, x => x
  | f + 1, x => if 0 < x ∧ 0 < x - k ∧ A (x - 1) = B (x - k - 1) then extB A B k f (x - 1) else x
def snB (A B : Int → Int) (k x : Int) : Int := extB A B k x.toNat x

theorem snF_step {A B : Int → Int} {n m k x : Int} (h : x < n ∧ x - k < m ∧ A x = B (x - k)) : snF A B n m k x = snF A B n m k (x + 1) := by
  unfold snF
  rw [show (n - x).toNat = (n - (x + 1)).toNat + 1 from by omega, extF, if_pos h]

theorem snF_stop {A B : Int → Int} {n m k x : Int} (h : ¬ (x < n ∧ x - k < m ∧ A x = B (x - k))) : snF A B n m k x = x := by
  unfold snF
  cases (n - x).toNat with
  | zero => rfl
  | succ f => rw [extF, if_neg h]

theorem snB_step {A B : Int → Int} {k x : Int} (h : 0 < x ∧ 0 < x - k ∧ A (x - 1) = B (x - k - 1)) : snB A B k x = snB A B k (x - 1) := by
  unfold snB
  rw [show x.toNat = (x - 1).toNat + 1 from by omega, extB, if_pos h]

theorem snB_stop {A B : Int → Int} {k x : Int} (h : ¬ (0 < x ∧ 0 < x - k ∧ A (x - 1) = B (x - k - 1))) : snB A B k x = x := by
  unfold snB
  cases x.toNat with
  | zero => rfl
  | succ f => rw [extB, if_neg h]

theorem extF_bd (A B : Int → Int) (n m k : Int) : ∀ (f : Nat) (x : Int), x ≤ n → x - k ≤ m → x ≤ extF A B n m k f x ∧ extF A B n m k f x ≤ n ∧ extF A B n m k f x - k ≤ m
  | 0, x, h1, h2 => by simp only [extF]; omega
  | f + 1, x, h1, h2 => by
    simp only [extF]
    split
    · rename_i h
      have := extF_bd A B n m k f (x + 1) (by omega) (by omega)
      omega
    · omega
theorem snF_bd (A B : Int → Int) (n m k x : Int) (h1 : x ≤ n) (h2 : x - k ≤ m) : x ≤ snF A B n m k x ∧ snF A B n m k x ≤ n ∧ snF A B n m k x - k ≤ m := extF_bd A B n m k _ x h1 h2

theorem extB_bd (A B : Int → Int) (k : Int) : ∀ (f : Nat) (x : Int), 0 ≤ x → 0 ≤ x - k → extB A B k f x ≤ x ∧ 0 ≤ extB A B k f x ∧ 0 ≤ extB A B k f x - k
  | 0, x, h1, h2 => by simp only [extB]; omega
  | f + 1, x, h1, h2 => by
    simp only [extB]
    split
    · rename_i h
      have := extB_bd A B k f (x - 1) (by omega) (by omega)
      omega
    · omega
theorem snB_bd (A B : Int → Int) (k x : Int) (h1 : 0 ≤ x) (h2 : 0 ≤ x - k) : snB A B k x ≤ x ∧ 0 ≤ snB A B k x ∧ 0 ≤ snB A B k x - k := extB_bd A B k _ x h1 h2

/-- the place on diagonal k that a step of round d from the start reaches, the runs after it left out -/
def stepF (F : Int → Int) (k : Int) : Int := if 0 ≤ F (k - 1) ∧ F (k + 1) < F (k - 1) + 1 then F (k - 1) + 1 else F (k + 1)
def startF (n m : Int) (F : Int → Int) (d k : Int) : Int := if 0 < d then min (min (stepF F k) n) (m + k) else 0

def stepB1 (n : Int) (G : Int → Int) (k : Int) : Int := if 0 ≤ G (k - 1) then G (k - 1) else n + 1
def stepB (n : Int) (G : Int → Int) (k : Int) : Int := if 0 ≤ G (k + 1) ∧ G (k + 1) - 1 < stepB1 n G k then G (k + 1) - 1 else stepB1 n G k
def startB (n : Int) (G : Int → Int) (d k : Int) : Int := if 0 < d then max (max (stepB n G k) 0) k else n

/-- what a search stands over -/
structure Pm where
  (A B : Int → Int)
  (n m : Int)
def Pm.odd (p : Pm) : Bool := ((p.n - p.m).tmod 2 != 0)

/-- a state of the search: the round d; forward or backward; the diagonal that comes next; the furthest places; the steps spent -/
structure St where
  (d : Int)
  (bk : Bool)
  (k : Int)
  (F G : Int → Int)
  (cost : Int)

def Pm.sF (p : Pm) (s : St) : Int := startF p.n p.m s.F s.d s.k
def Pm.eF (p : Pm) (s : St) : Int := snF p.A p.B p.n p.m s.k (p.sF s)
def Pm.sB (p : Pm) (s : St) : Int := startB p.n s.G s.d s.k
def Pm.eB (p : Pm) (s : St) : Int := snB p.A p.B s.k (p.sB s)
def Pm.lastF (p : Pm) (d : Int) : Int := dLast p.n 0 d
def Pm.lastB (p : Pm) (d : Int) : Int := dLast p.n (p.n - p.m) d
def Pm.firstF (p : Pm) (d : Int) : Int := dFirst p.m 0 d
def Pm.firstB (p : Pm) (d : Int) : Int := dFirst p.m (p.n - p.m) d

/-- one diagonal, or the turn to the next phase -/
def Pm.nxt (p : Pm) (s : St) : St :=
  if s.bk = false then
    if s.k ≤ p.lastF s.d then ⟨s.d, false, s.k + 2, updZ s.F s.k (p.eF s), s.G, s.cost + (1 + p.eF s - p.sF s)⟩
    else ⟨s.d, true, p.firstB s.d, s.F, s.G, s.cost⟩
  else
    if s.k ≤ p.lastB s.d then ⟨s.d, true, s.k + 2, s.F, updZ s.G s.k (p.eB s), s.cost + (1 + p.sB s - p.eB s)⟩
    else ⟨s.d + 1, false, p.firstF (s.d + 1), s.F, s.G, s.cost⟩

def Pm.hitF (p : Pm) (s : St) : Prop := p.odd = true ∧ 0 ≤ s.G s.k ∧ s.G s.k ≤ p.eF s
def Pm.hitB (p : Pm) (s : St) : Prop := p.odd = false ∧ 0 ≤ s.F s.k ∧ p.eB s ≤ s.F s.k

/-- the way from the start and the one from the end meet at the state s, with this run -/
def Pm.Fin (p : Pm) (s : St) (x y u v : Int) : Prop :=
  (s.bk = false ∧ s.k ≤ p.lastF s.d ∧ p.hitF s ∧ x = p.sF s ∧ y = p.sF s - s.k ∧ u = p.eF s ∧ v = p.eF s - s.k) ∨
  (s.bk = true ∧ s.k ≤ p.lastB s.d ∧ p.hitB s ∧ x = p.eB s ∧ y = p.eB s - s.k ∧ u = p.sB s ∧ v = p.sB s - s.k)
def Pm.NoFin (p : Pm) (s : St) : Prop :=
  (s.bk = false → s.k ≤ p.lastF s.d → ¬ p.hitF s) ∧ (s.bk = true → s.k ≤ p.lastB s.d → ¬ p.hitB s)

def Pm.stAt (p : Pm) : Nat → St
  | 0 => ⟨0, false, p.firstF 0, fun _ => -1, fun _ => -1, 0⟩
  | i + 1 => p.nxt (p.stAt i)

/-- what the Go text leans on in a state -/
structure Pm.Safe (p : Pm) (s : St) : Prop where
  d0 : 0 ≤ s.d
  d1 : s.d ≤ p.n + p.m
  F0 : ∀ j, -1 ≤ s.F j
  F1 : ∀ j, s.F j ≤ p.n
  G0 : ∀ j, -1 ≤ s.G j
  G1 : ∀ j, s.G j ≤ p.n
  c0 : 0 ≤ s.cost
  c1 : s.cost ≤ 1073741824
  f : s.bk = false → s.k ≤ p.lastF s.d → -p.m ≤ s.k ∧ s.k ≤ p.n ∧ 0 ≤ p.sF s ∧ p.sF s ≤ p.n ∧ 0 ≤ p.sF s - s.k ∧ p.sF s - s.k ≤ p.m
  b : s.bk = true → s.k ≤ p.lastB s.d → -p.m ≤ s.k ∧ s.k ≤ p.n ∧ 0 ≤ p.sB s ∧ p.sB s ≤ p.n ∧ 0 ≤ p.sB s - s.k ∧ p.sB s - s.k ≤ p.m

def Pm.Clear (p : Pm) (i : Nat) : Prop := ∀ j, j < i → p.NoFin (p.stAt j)
def Pm.AllSafe (p : Pm) : Prop := ∀ i, p.Clear i → p.Safe (p.stAt i)

/-- how a call with L steps to spend ends -/
def Pm.Out (p : Pm) (L x y u v : Int) (b : Bool) (L' : Int) : Prop :=
  ∃ t, p.Clear t ∧
    ((p.Fin (p.stAt t) x y u v ∧ b = true ∧ L' = L - (p.stAt t).cost ∧ ((p.stAt t).cost = 0 ∨ 0 ≤ L')) ∨
     (p.NoFin (p.stAt t) ∧ b = false ∧ x = 0 ∧ y = 0 ∧ u = 0 ∧ v = 0 ∧ L' = L - (p.stAt (t + 1)).cost ∧ L' < 0))

theorem Pm.clear_succ {p : Pm} {i : Nat} (h : p.Clear i) (h' : p.NoFin (p.stAt i)) : p.Clear (i + 1) := by
  intro j hj
  by_cases e : j = i
  · subst e; exact h'
  · exact h j (by omega)

end Ms
end Go.Proofs.Qxb6601047a
