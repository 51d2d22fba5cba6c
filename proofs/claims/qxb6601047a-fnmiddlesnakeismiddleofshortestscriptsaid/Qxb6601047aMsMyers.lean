/-
  MYERS' MIDDLE SNAKE: the search finds the middle of a cheapest way: plain, no Go in sight.
-/
import Derived.Test.Qxb6601047aMsDist
import Derived.Test.Qxb6601047aMsBudget
namespace Go.Proofs.Qxb6601047a.Ms

theorem extF_D (A B : Int → Int) (n m k : Int) : ∀ (f : Nat) (x : Int), 0 ≤ x → 0 ≤ x - k → Dd A B (extF A B n m k f x) (extF A B n m k f x - k) = Dd A B x (x - k)
  | 0, x, _, _ => rfl
  | f + 1, x, h1, h2 => by
    simp only [extF]
    split
    · rename_i h
      rw [extF_D A B n m k f (x + 1) (by omega) (by omega)]
      have := D_match (A := A) (B := B) (x := x) (y := x - k) h1 h2 h.2.2
      rw [show x - k + 1 = x + 1 - k from by omega] at this
      exact this
    · rfl
theorem extF_end (A B : Int → Int) (n m k : Int) : ∀ (f : Nat) (x : Int), n - x ≤ f → ¬ (extF A B n m k f x < n ∧ extF A B n m k f x - k < m ∧ A (extF A B n m k f x) = B (extF A B n m k f x - k))
  | 0, x, h => by simp only [extF]; omega
  | f + 1, x, h => by
    simp only [extF]
    split
    · exact extF_end A B n m k f (x + 1) (by omega)
    · rename_i h'; exact h'
theorem extF_run (A B : Int → Int) (n m k : Int) : ∀ (f : Nat) (x t : Int), x ≤ t → t < extF A B n m k f x → A t = B (t - k)
  | 0, x, t, h1, h2 => by simp only [extF] at h2; omega
  | f + 1, x, t, h1, h2 => by
    simp only [extF] at h2
    split at h2
    · rename_i h
      by_cases e : t = x
      · subst e; exact h.2.2
      · exact extF_run A B n m k f (x + 1) t (by omega) h2
    · omega

theorem extB_E (p : Pm) (k : Int) : ∀ (f : Nat) (x : Int), x ≤ p.n → x - k ≤ p.m → p.E (extB p.A p.B k f x) (extB p.A p.B k f x - k) = p.E x (x - k)
  | 0, x, _, _ => rfl
  | f + 1, x, h1, h2 => by
    simp only [extB]
    split
    · rename_i h
      rw [extB_E p k f (x - 1) (by omega) (by omega)]
      have := E_match (p := p) (x := x - 1) (y := x - k - 1) (by omega) (by omega) h.2.2
      rw [show x - 1 + 1 = x from by omega, show x - k - 1 + 1 = x - k from by omega, show x - k - 1 = x - 1 - k from by omega] at this
      exact this
    · rfl
theorem extB_end (A B : Int → Int) (k : Int) : ∀ (f : Nat) (x : Int), x ≤ f → ¬ (0 < extB A B k f x ∧ 0 < extB A B k f x - k ∧ A (extB A B k f x - 1) = B (extB A B k f x - k - 1))
  | 0, x, h => by simp only [extB]; omega
  | f + 1, x, h => by
    simp only [extB]
    split
    · exact extB_end A B k f (x - 1) (by omega)
    · rename_i h'; exact h'
theorem extB_run (A B : Int → Int) (k : Int) : ∀ (f : Nat) (x t : Int), extB A B k f x ≤ t → t < x → A t = B (t - k)
  | 0, x, t, h1, h2 => by simp only [extB] at h1; omega
  | f + 1, x, t, h1, h2 => by
    simp only [extB] at h1
    split at h1
    · rename_i h
      by_cases e : t = x - 1
      · subst e
        rw [show x - 1 - k = x - k - 1 from by omega]
        exact h.2.2
      · exact extB_run A B k f (x - 1) t h1 (by omega)
    · omega

/-- what the furthest places are worth -/
structure Inv2 (p : Pm) (s : St) : Prop where
  SF : ∀ j, 0 ≤ s.F j → p.D (s.F j) (s.F j - j) ≤ s.d
  SG : ∀ j, 0 ≤ s.G j → p.E (s.G j) (s.G j - j) ≤ s.d
  SG' : s.bk = false → ∀ j, 0 ≤ s.G j → p.E (s.G j) (s.G j - j) ≤ s.d - 1
  CF : ∀ j, actF p (s.d - 1) j → ∀ x, valid p j x → p.D x (x - j) ≤ s.d - 1 → x ≤ s.F j
  CF2 : ∀ j, actF p s.d j → (s.bk = true ∨ j < s.k) → ∀ x, valid p j x → p.D x (x - j) ≤ s.d → x ≤ s.F j
  CG : ∀ j, actB p (s.d - 1) j → ∀ x, valid p j x → p.E x (x - j) ≤ s.d - 1 → s.G j ≤ x
  CG2 : ∀ j, actB p s.d j → s.bk = true → j < s.k → ∀ x, valid p j x → p.E x (x - j) ≤ s.d → s.G j ≤ x
  TO : p.odd = true → s.bk = false → 2 * s.d - 1 ≤ p.T ∧ (p.T = 2 * s.d - 1 → ∀ x y, 0 ≤ x → x ≤ p.n → 0 ≤ y → y ≤ p.m → p.D x y ≤ s.d → p.E x y ≤ s.d - 1 → s.k ≤ x - y)
  TO' : p.odd = true → s.bk = true → 2 * s.d + 1 ≤ p.T
  TE : p.odd = false → 2 * s.d ≤ p.T
  TE' : p.odd = false → s.bk = true → p.T = 2 * s.d → ∀ x y, 0 ≤ x → x ≤ p.n → 0 ≤ y → y ≤ p.m → p.D x y ≤ s.d → p.E x y ≤ s.d → s.k ≤ x - y

/-- the step from the start: sound -/
theorem sF_D {p : Pm} (hp : p.Sized) {s : St} (h : Inv p s) (h2 : Inv2 p s) (hb : s.bk = false) (hk : s.k ≤ p.lastF s.d) : p.D (p.sF s) (p.sF s - s.k) ≤ s.d := by
  obtain ⟨ha, hv, _⟩ := sF_bd hp h hb hk
  have V1 := h.VF (s.k - 1)
  have V2 := h.VF (s.k + 1)
  have W1 := h.WF (s.k - 1)
  have W2 := h.WF (s.k + 1)
  have S1 := h2.SF (s.k - 1)
  have S2 := h2.SF (s.k + 1)
  have d0 := h.d0
  obtain ⟨n1, n2, m1, m2⟩ := hp
  unfold Pm.sF startF at *
  by_cases hd : 0 < s.d
  · rw [if_pos hd] at *
    unfold stepF at *
    unfold actF loF valid at *
    by_cases c : 0 ≤ s.F (s.k - 1) ∧ s.F (s.k + 1) < s.F (s.k - 1) + 1
    · rw [if_pos c] at *
      generalize s.F (s.k - 1) = f at *
      have S1' := S1 c.1
      have P1 := D_par p.A p.B f (f - (s.k - 1))
      unfold Pm.D at *
      by_cases hf : f < p.n
      · rw [show min (min (f + 1) p.n) (p.m + s.k) = f + 1 from by omega]
        have := (D_x (A := p.A) (B := p.B) (x := f) (y := f - (s.k - 1)) c.1).1
        rw [show f + 1 - s.k = f - (s.k - 1) from by omega]
        omega
      · obtain rfl : f = p.n := by omega
        rw [show min (min (p.n + 1) p.n) (p.m + s.k) = p.n from by omega]
        have := (D_y (A := p.A) (B := p.B) (x := p.n) (y := p.n - s.k) (by omega)).2
        rw [show p.n - s.k + 1 = p.n - (s.k - 1) from by omega] at this
        omega
    · rw [if_neg c] at *
      have g0 : 0 ≤ s.F (s.k + 1) := by omega
      generalize s.F (s.k + 1) = g at *
      have S2' := S2 g0
      have P2 := D_par p.A p.B g (g - (s.k + 1))
      unfold Pm.D at *
      by_cases hg : g ≤ p.m + s.k
      · rw [show min (min g p.n) (p.m + s.k) = g from by omega]
        have := (D_y (A := p.A) (B := p.B) (x := g) (y := g - (s.k + 1)) (by omega)).1
        rw [show g - (s.k + 1) + 1 = g - s.k from by omega] at this
        omega
      · obtain rfl : g = p.m + s.k + 1 := by omega
        rw [show min (min (p.m + s.k + 1) p.n) (p.m + s.k) = p.m + s.k from by omega]
        have := (D_x (A := p.A) (B := p.B) (x := p.m + s.k) (y := p.m + s.k - s.k) (by omega)).2
        rw [show p.m + s.k + 1 - (s.k + 1) = p.m + s.k - s.k from by omega] at *
        omega
  · rw [if_neg hd]
    unfold actF at ha
    obtain hk0 : s.k = 0 := by omega
    rw [hk0]
    have : p.D 0 (0 - 0) = 0 := D_0y _ _ _
    omega

/-- the furthest place: none further -/
theorem eF_far {p : Pm} (hp : p.Sized) {s : St} (h : Inv p s) (h2 : Inv2 p s) (hb : s.bk = false) (hk : s.k ≤ p.lastF s.d) (x : Int) (hx : valid p s.k x) (hD : p.D x (x - s.k) ≤ s.d) : x ≤ p.eF s := by
  obtain ⟨ha, hv, _⟩ := sF_bd hp h hb hk
  obtain ⟨hv', he⟩ := eF_bd hv
  rcases Int.lt_or_le (p.eF s) x with hlt | hle
  · exfalso
    have hend : ¬ (p.eF s < p.n ∧ p.eF s - s.k < p.m ∧ p.A (p.eF s) = p.B (p.eF s - s.k)) := extF_end p.A p.B p.n p.m s.k _ _ (by omega)
    have hm : p.D (p.eF s + 1) (p.eF s + 1 - s.k) ≤ p.D x (x - s.k) := D_le p.A p.B (by unfold valid at hv'; omega) (by unfold valid at hv'; omega) (by omega)
    have hne : ¬ p.A (p.eF s) = p.B (p.eF s - s.k) := by
      intro e
      refine hend ⟨?_, ?_, e⟩
      · unfold valid at hx; omega
      · unfold valid at hx; omega
    have hmis : p.D (p.eF s + 1) (p.eF s - s.k + 1) = 1 + min (p.D (p.eF s) (p.eF s - s.k + 1)) (p.D (p.eF s + 1) (p.eF s - s.k)) := D_mis (by unfold valid at hv'; omega) (by unfold valid at hv'; omega) hne
    rw [show p.eF s + 1 - s.k = p.eF s - s.k + 1 from by omega] at hm
    have C1 := h2.CF (s.k - 1)
    have C2 := h2.CF (s.k + 1)
    have hst : p.sF s = startF p.n p.m s.F s.d s.k := rfl
    generalize p.eF s = e at *
    have a1 := D_abs (A := p.A) (B := p.B) (x := e) (y := e - s.k + 1) (by unfold valid at hv'; omega) (by unfold valid at hv'; omega)
    have a2 := D_abs (A := p.A) (B := p.B) (x := e + 1) (y := e - s.k) (by unfold valid at hv'; omega) (by unfold valid at hv'; omega)
    have hd0 := h.d0
    have V1 := h.VF (s.k - 1)
    have V2 := h.VF (s.k + 1)
    by_cases c1 : p.D e (e - s.k + 1) ≤ s.d - 1
    · have hF := C1 (by unfold actF valid Pm.D at *; obtain ⟨n1, n2, m1, m2⟩ := hp; omega) e (by unfold valid at *; omega) (by rw [show e - (s.k - 1) = e - s.k + 1 from by omega]; exact c1)
      have hd : 0 < s.d := by unfold Pm.D at c1; omega
      unfold startF stepF at hst
      rw [if_pos hd] at hst
      unfold valid actF at *
      by_cases c : 0 ≤ s.F (s.k - 1) ∧ s.F (s.k + 1) < s.F (s.k - 1) + 1
      · rw [if_pos c] at hst; omega
      · rw [if_neg c] at hst; omega
    · have c2 : p.D (e + 1) (e - s.k) ≤ s.d - 1 := by omega
      have hF := C2 (by unfold actF valid Pm.D at *; obtain ⟨n1, n2, m1, m2⟩ := hp; omega) (e + 1) (by unfold valid at *; omega) (by rw [show e + 1 - (s.k + 1) = e - s.k from by omega]; exact c2)
      have hd : 0 < s.d := by unfold Pm.D at c2; omega
      unfold startF stepF at hst
      rw [if_pos hd] at hst
      unfold valid actF at *
      by_cases c : 0 ≤ s.F (s.k - 1) ∧ s.F (s.k + 1) < s.F (s.k - 1) + 1
      · rw [if_pos c] at hst; omega
      · rw [if_neg c] at hst; omega
  · exact hle

theorem eF_D {p : Pm} {s : St} (h : valid p s.k (p.sF s)) : p.D (p.eF s) (p.eF s - s.k) = p.D (p.sF s) (p.sF s - s.k) := extF_D p.A p.B p.n p.m s.k _ _ h.1 h.2.2.1

/-- the step from the end: sound -/
theorem sB_E {p : Pm} (hp : p.Sized) {s : St} (h : Inv p s) (h2 : Inv2 p s) (hb : s.bk = true) (hk : s.k ≤ p.lastB s.d) : p.E (p.sB s) (p.sB s - s.k) ≤ s.d := by
  obtain ⟨ha, hv, _⟩ := sB_bd hp h hb hk
  have V1 := h.VG (s.k - 1)
  have V2 := h.VG (s.k + 1)
  have W1 := h.WG (s.k - 1)
  have W2 := h.WG (s.k + 1)
  have S1 := h2.SG (s.k - 1)
  have S2 := h2.SG (s.k + 1)
  have d0 := h.d0
  have hst : p.sB s = startB p.n s.G s.d s.k := rfl
  obtain ⟨n1, n2, m1, m2⟩ := hp
  unfold startB at hst
  by_cases hd : 0 < s.d
  · rw [if_pos hd] at hst
    -- from diagonal k - 1: a line of b is passed
    have from1 : 0 ≤ s.G (s.k - 1) → p.sB s = max (max (s.G (s.k - 1)) 0) s.k → p.E (p.sB s) (p.sB s - s.k) ≤ s.d := by
      intro g0 e
      have S1' := S1 g0
      have P1 := E_par p (s.G (s.k - 1)) (s.G (s.k - 1) - (s.k - 1))
      unfold actB valid at *
      generalize s.G (s.k - 1) = g at *
      by_cases hg : s.k ≤ g
      · rw [show p.sB s = g from by omega]
        have := (E_y (p := p) (x := g) (y := g - s.k) (by omega)).2
        rw [show g - s.k + 1 = g - (s.k - 1) from by omega] at this
        omega
      · obtain rfl : g = s.k - 1 := by omega
        rw [show p.sB s = s.k from by omega]
        have := (E_x (p := p) (x := s.k - 1) (y := s.k - 1 - (s.k - 1)) (by omega)).1
        rw [show s.k - 1 + 1 = s.k from by omega, show s.k - 1 - (s.k - 1) = s.k - s.k from by omega] at this
        rw [show s.k - 1 - (s.k - 1) = s.k - s.k from by omega] at S1' P1
        omega
    -- from diagonal k + 1: a line of a is passed
    have from2 : 0 ≤ s.G (s.k + 1) → p.sB s = max (max (s.G (s.k + 1) - 1) 0) s.k → p.E (p.sB s) (p.sB s - s.k) ≤ s.d := by
      intro g0 e
      have S2' := S2 g0
      have P2 := E_par p (s.G (s.k + 1)) (s.G (s.k + 1) - (s.k + 1))
      unfold actB valid at *
      generalize s.G (s.k + 1) = g at *
      by_cases hg : 0 < g
      · rw [show p.sB s = g - 1 from by omega]
        have := (E_x (p := p) (x := g - 1) (y := g - 1 - s.k) (by omega)).2
        rw [show g - 1 + 1 = g from by omega, show g - 1 - s.k = g - (s.k + 1) from by omega] at this
        rw [show g - 1 - s.k = g - (s.k + 1) from by omega]
        omega
      · obtain rfl : g = 0 := by omega
        rw [show p.sB s = 0 from by omega]
        have := (E_y (p := p) (x := 0) (y := 0 - (s.k + 1)) (by omega)).1
        rw [show 0 - (s.k + 1) + 1 = 0 - s.k from by omega] at this
        omega
    unfold stepB stepB1 at hst
    by_cases c1 : 0 ≤ s.G (s.k - 1)
    · rw [if_pos c1] at hst
      by_cases c2 : 0 ≤ s.G (s.k + 1) ∧ s.G (s.k + 1) - 1 < s.G (s.k - 1)
      · rw [if_pos c2] at hst; exact from2 c2.1 hst
      · rw [if_neg c2] at hst; exact from1 c1 hst
    · rw [if_neg c1] at hst
      by_cases c2 : 0 ≤ s.G (s.k + 1) ∧ s.G (s.k + 1) - 1 < p.n + 1
      · rw [if_pos c2] at hst; exact from2 c2.1 hst
      · exfalso
        unfold actB valid hiB at *
        omega
  · rw [if_neg hd] at hst
    unfold actB at ha
    rw [hst, show p.n - s.k = p.m from by omega, E_nm]
    exact d0

theorem eB_E {p : Pm} {s : St} (h : valid p s.k (p.sB s)) : p.E (p.eB s) (p.eB s - s.k) = p.E (p.sB s) (p.sB s - s.k) := extB_E p s.k _ _ h.2.1 h.2.2.2

/-- the least place: none before it -/
theorem eB_far {p : Pm} (hp : p.Sized) {s : St} (h : Inv p s) (h2 : Inv2 p s) (hb : s.bk = true) (hk : s.k ≤ p.lastB s.d) (x : Int) (hx : valid p s.k x) (hE : p.E x (x - s.k) ≤ s.d) : p.eB s ≤ x := by
  obtain ⟨ha, hv, _⟩ := sB_bd hp h hb hk
  obtain ⟨hv', he⟩ := eB_bd hv
  rcases Int.lt_or_le x (p.eB s) with hlt | hle
  · exfalso
    have hend : ¬ (0 < p.eB s ∧ 0 < p.eB s - s.k ∧ p.A (p.eB s - 1) = p.B (p.eB s - s.k - 1)) := extB_end p.A p.B s.k _ _ (by unfold valid at hv; omega)
    have hm : p.E (p.eB s - 1) (p.eB s - 1 - s.k) ≤ p.E x (x - s.k) := E_le (by unfold valid at hv'; omega) (by unfold valid at hv'; omega) (by omega)
    have hne : ¬ p.A (p.eB s - 1) = p.B (p.eB s - s.k - 1) := by
      intro e
      refine hend ⟨?_, ?_, e⟩
      · unfold valid at hx; omega
      · unfold valid at hx; omega
    have hmis := E_mis (p := p) (x := p.eB s - 1) (y := p.eB s - s.k - 1) (by unfold valid at hv'; omega) (by unfold valid at hv'; omega) hne
    rw [show p.eB s - 1 + 1 = p.eB s from by omega, show p.eB s - s.k - 1 + 1 = p.eB s - s.k from by omega] at hmis
    rw [show p.eB s - 1 - s.k = p.eB s - s.k - 1 from by omega] at hm
    have C1 := h2.CG (s.k - 1)
    have C2 := h2.CG (s.k + 1)
    have hst : p.sB s = startB p.n s.G s.d s.k := rfl
    generalize p.eB s = e at *
    have a1 := E_abs (p := p) (x := e) (y := e - s.k - 1) (by unfold valid at hv'; omega) (by unfold valid at hv'; omega)
    have a2 := E_abs (p := p) (x := e - 1) (y := e - s.k) (by unfold valid at hv'; omega) (by unfold valid at hv'; omega)
    have hd0 := h.d0
    have V1 := h.VG (s.k - 1)
    have V2 := h.VG (s.k + 1)
    have W1 := h.WG (s.k - 1)
    have W2 := h.WG (s.k + 1)
    by_cases c1 : p.E e (e - s.k - 1) ≤ s.d - 1
    · have hact : actB p (s.d - 1) (s.k + 1) := by unfold actB valid at *; obtain ⟨n1, n2, m1, m2⟩ := hp; omega
      have hG := C2 hact e (by unfold valid at *; omega) (by rw [show e - (s.k + 1) = e - s.k - 1 from by omega]; exact c1)
      have hG0 := W2 hact
      have hd : 0 < s.d := by omega
      unfold startB stepB stepB1 at hst
      rw [if_pos hd] at hst
      unfold valid actB at *
      by_cases d1 : 0 ≤ s.G (s.k - 1)
      · rw [if_pos d1] at hst
        by_cases d2 : 0 ≤ s.G (s.k + 1) ∧ s.G (s.k + 1) - 1 < s.G (s.k - 1)
        · rw [if_pos d2] at hst; omega
        · rw [if_neg d2] at hst; omega
      · rw [if_neg d1] at hst
        by_cases d2 : 0 ≤ s.G (s.k + 1) ∧ s.G (s.k + 1) - 1 < p.n + 1
        · rw [if_pos d2] at hst; omega
        · rw [if_neg d2] at hst; omega
    · have c2 : p.E (e - 1) (e - s.k) ≤ s.d - 1 := by omega
      have hact : actB p (s.d - 1) (s.k - 1) := by unfold actB valid at *; obtain ⟨n1, n2, m1, m2⟩ := hp; omega
      have hG := C1 hact (e - 1) (by unfold valid at *; omega) (by rw [show e - 1 - (s.k - 1) = e - s.k from by omega]; exact c2)
      have hG0 := W1 hact
      have hd : 0 < s.d := by omega
      unfold startB stepB stepB1 at hst
      rw [if_pos hd] at hst
      unfold valid actB at *
      by_cases d1 : 0 ≤ s.G (s.k - 1)
      · rw [if_pos d1] at hst
        by_cases d2 : 0 ≤ s.G (s.k + 1) ∧ s.G (s.k + 1) - 1 < s.G (s.k - 1)
        · rw [if_pos d2] at hst; omega
        · rw [if_neg d2] at hst; omega
      · omega
  · exact hle

end Go.Proofs.Qxb6601047a.Ms
