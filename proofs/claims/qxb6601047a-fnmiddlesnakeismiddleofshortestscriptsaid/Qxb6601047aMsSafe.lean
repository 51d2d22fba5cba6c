/-
  The search stays within its arrays, and the two ways meet: plain, no Go in sight.
-/
import Derived.Test.Qxb6601047aMsPlain
namespace Go.Proofs.Qxb6601047a.Ms

/-- diagonal j is followed in round d from the start -/
def actF (p : Pm) (d j : Int) : Prop := -p.m ≤ j ∧ j ≤ p.n ∧ -d ≤ j ∧ j ≤ d ∧ (j - d) % 2 = 0
def actB (p : Pm) (d j : Int) : Prop := -p.m ≤ j ∧ j ≤ p.n ∧ -d ≤ j - (p.n - p.m) ∧ j - (p.n - p.m) ≤ d ∧ (j - (p.n - p.m) - d) % 2 = 0
def loF (p : Pm) (d j : Int) : Int := min p.n (min (p.m + j) ((d + j) / 2))
def hiB (p : Pm) (d j : Int) : Int := max 0 (max j (p.n - (d - (j - (p.n - p.m))) / 2))
def valid (p : Pm) (j x : Int) : Prop := 0 ≤ x ∧ x ≤ p.n ∧ 0 ≤ x - j ∧ x - j ≤ p.m
def bN (b : Bool) : Int := if b then 1 else 0

structure Pm.Sized (p : Pm) : Prop where
  n1 : 1 ≤ p.n
  n2 : p.n ≤ 512
  m1 : 1 ≤ p.m
  m2 : p.m ≤ 512

theorem tmod2 (a : Int) : a.tmod 2 = 0 ↔ a % 2 = 0 := by
  constructor
  · intro h
    have := Int.dvd_of_tmod_eq_zero h
    omega
  · intro h
    exact Int.tmod_eq_zero_of_dvd (by omega)
theorem odd_true {p : Pm} (h : p.odd = true) : (p.n - p.m) % 2 = 1 := by
  unfold Pm.odd at h
  simp only [bne_iff_ne, ne_eq, tmod2] at h
  omega
theorem odd_false {p : Pm} (h : p.odd = false) : (p.n - p.m) % 2 = 0 := by
  unfold Pm.odd at h
  have h' : (p.n - p.m).tmod 2 = 0 := by simpa using h
  exact (tmod2 _).1 h'

structure Inv (p : Pm) (s : St) : Prop where
  d0 : 0 ≤ s.d
  d1 : s.d ≤ p.n + p.m
  VF : ∀ j, s.F j = -1 ∨ valid p j (s.F j)
  VG : ∀ j, s.G j = -1 ∨ valid p j (s.G j)
  kF : s.bk = false → p.firstF s.d ≤ s.k ∧ s.k ≤ p.lastF s.d + 2 ∧ (s.k - s.d) % 2 = 0
  kB : s.bk = true → p.firstB s.d ≤ s.k ∧ s.k ≤ p.lastB s.d + 2 ∧ (s.k - (p.n - p.m) - s.d) % 2 = 0
  WF : ∀ j, actF p (s.d - 1) j → loF p (s.d - 1) j ≤ s.F j
  WF2 : ∀ j, actF p s.d j → (s.bk = true ∨ j < s.k) → loF p s.d j ≤ s.F j
  WG : ∀ j, actB p (s.d - 1) j → 0 ≤ s.G j ∧ s.G j ≤ hiB p (s.d - 1) j
  WG2 : ∀ j, actB p s.d j → s.bk = true → j < s.k → 0 ≤ s.G j ∧ s.G j ≤ hiB p s.d j
  MO : p.odd = true → s.d = p.n + p.m → s.bk = false ∧ s.k ≤ p.n - p.m
  ME : p.odd = false → s.d = p.n + p.m → s.bk = true → s.k ≤ p.n - p.m
  c0 : 0 ≤ s.cost
  cF : s.bk = false → s.cost ≤ 263169 * (2 * s.d) + 513 * ((s.k - p.firstF s.d) / 2)
  cB : s.bk = true → s.cost ≤ 263169 * (2 * s.d + 1) + 513 * ((s.k - p.firstB s.d) / 2)

theorem firstF_bd {p : Pm} (hp : p.Sized) {d : Int} (_h : 0 ≤ d) : -p.m ≤ p.firstF d ∧ -d ≤ p.firstF d ∧ (p.firstF d - d) % 2 = 0 ∧ (p.firstF d ≤ -d ∨ p.firstF d ≤ -p.m + 1) := by
  obtain ⟨h1, h2, h3, h4⟩ := hp
  unfold Pm.firstF dFirst
  split <;> omega
theorem lastF_bd {p : Pm} (hp : p.Sized) {d : Int} (_h : 0 ≤ d) : p.lastF d ≤ p.n ∧ p.lastF d ≤ d ∧ (p.lastF d - d) % 2 = 0 ∧ (d ≤ p.lastF d ∨ p.n - 1 ≤ p.lastF d) := by
  obtain ⟨h1, h2, h3, h4⟩ := hp
  unfold Pm.lastF dLast
  split <;> omega
theorem firstB_bd {p : Pm} (hp : p.Sized) {d : Int} (_h : 0 ≤ d) : -p.m ≤ p.firstB d ∧ -d ≤ p.firstB d - (p.n - p.m) ∧ (p.firstB d - (p.n - p.m) - d) % 2 = 0 ∧ (p.firstB d - (p.n - p.m) ≤ -d ∨ p.firstB d ≤ -p.m + 1) := by
  obtain ⟨h1, h2, h3, h4⟩ := hp
  unfold Pm.firstB dFirst
  split <;> omega
theorem lastB_bd {p : Pm} (hp : p.Sized) {d : Int} (_h : 0 ≤ d) : p.lastB d ≤ p.n ∧ p.lastB d - (p.n - p.m) ≤ d ∧ (p.lastB d - (p.n - p.m) - d) % 2 = 0 ∧ (d ≤ p.lastB d - (p.n - p.m) ∨ p.n - 1 ≤ p.lastB d) := by
  obtain ⟨h1, h2, h3, h4⟩ := hp
  unfold Pm.lastB dLast
  split <;> omega

/-- what a step of the forward phase comes to -/
theorem sF_bd {p : Pm} (hp : p.Sized) {s : St} (h : Inv p s) (hb : s.bk = false) (hk : s.k ≤ p.lastF s.d) :
    actF p s.d s.k ∧ valid p s.k (p.sF s) ∧ loF p s.d s.k ≤ p.sF s := by
  have b1 := firstF_bd hp h.d0
  have b2 := lastF_bd hp h.d0
  obtain ⟨k1, k2, k3⟩ := h.kF hb
  have d0 := h.d0
  have ha : actF p s.d s.k := by unfold actF; omega
  refine ⟨ha, ?_⟩
  have V1 := h.VF (s.k - 1)
  have V2 := h.VF (s.k + 1)
  have W1 := h.WF (s.k - 1)
  have W2 := h.WF (s.k + 1)
  obtain ⟨n1, n2, m1, m2⟩ := hp
  unfold Pm.sF startF stepF
  unfold actF loF valid at *
  by_cases hd : 0 < s.d
  · rw [if_pos hd]
    by_cases c : 0 ≤ s.F (s.k - 1) ∧ s.F (s.k + 1) < s.F (s.k - 1) + 1
    · rw [if_pos c]
      omega
    · rw [if_neg c]
      omega
  · rw [if_neg hd]
    omega

theorem sB_bd {p : Pm} (hp : p.Sized) {s : St} (h : Inv p s) (hb : s.bk = true) (hk : s.k ≤ p.lastB s.d) :
    actB p s.d s.k ∧ valid p s.k (p.sB s) ∧ p.sB s ≤ hiB p s.d s.k := by
  have b1 := firstB_bd hp h.d0
  have b2 := lastB_bd hp h.d0
  obtain ⟨k1, k2, k3⟩ := h.kB hb
  have d0 := h.d0
  have ha : actB p s.d s.k := by unfold actB; omega
  refine ⟨ha, ?_⟩
  have V1 := h.VG (s.k - 1)
  have V2 := h.VG (s.k + 1)
  have W1 := h.WG (s.k - 1)
  have W2 := h.WG (s.k + 1)
  obtain ⟨n1, n2, m1, m2⟩ := hp
  unfold Pm.sB startB stepB stepB1
  unfold actB hiB valid at *
  by_cases hd : 0 < s.d
  · rw [if_pos hd]
    by_cases c1 : 0 ≤ s.G (s.k - 1)
    · rw [if_pos c1]
      by_cases c2 : 0 ≤ s.G (s.k + 1) ∧ s.G (s.k + 1) - 1 < s.G (s.k - 1)
      · rw [if_pos c2]
        omega
      · rw [if_neg c2]
        omega
    · rw [if_neg c1]
      by_cases c2 : 0 ≤ s.G (s.k + 1) ∧ s.G (s.k + 1) - 1 < p.n + 1
      · rw [if_pos c2]
        omega
      · rw [if_neg c2]
        omega
  · rw [if_neg hd]
    omega

theorem updZ_same (F : Int → Int) (k x : Int) : updZ F k x k = x := by simp [updZ]
theorem updZ_ne (F : Int → Int) (k x j : Int) (h : j ≠ k) : updZ F k x j = F j := by simp [updZ, h]

theorem nxt_f1 {p : Pm} {s : St} (h1 : s.bk = false) (h2 : s.k ≤ p.lastF s.d) : p.nxt s = ⟨s.d, false, s.k + 2, updZ s.F s.k (p.eF s), s.G, s.cost + (1 + p.eF s - p.sF s)⟩ := by
  unfold Pm.nxt; rw [if_pos h1, if_pos h2]
theorem nxt_f2 {p : Pm} {s : St} (h1 : s.bk = false) (h2 : ¬ s.k ≤ p.lastF s.d) : p.nxt s = ⟨s.d, true, p.firstB s.d, s.F, s.G, s.cost⟩ := by
  unfold Pm.nxt; rw [if_pos h1, if_neg h2]
theorem nxt_b1 {p : Pm} {s : St} (h1 : s.bk = true) (h2 : s.k ≤ p.lastB s.d) : p.nxt s = ⟨s.d, true, s.k + 2, s.F, updZ s.G s.k (p.eB s), s.cost + (1 + p.sB s - p.eB s)⟩ := by
  unfold Pm.nxt; rw [if_neg (by simp [h1]), if_pos h2]
theorem nxt_b2 {p : Pm} {s : St} (h1 : s.bk = true) (h2 : ¬ s.k ≤ p.lastB s.d) : p.nxt s = ⟨s.d + 1, false, p.firstF (s.d + 1), s.F, s.G, s.cost⟩ := by
  unfold Pm.nxt; rw [if_neg (by simp [h1]), if_neg h2]

theorem eF_bd {p : Pm} {s : St} (h : valid p s.k (p.sF s)) : valid p s.k (p.eF s) ∧ p.sF s ≤ p.eF s := by
  have := snF_bd p.A p.B p.n p.m s.k (p.sF s) h.2.1 h.2.2.2
  unfold valid at *
  show (0 ≤ snF p.A p.B p.n p.m s.k (p.sF s) ∧ snF p.A p.B p.n p.m s.k (p.sF s) ≤ p.n ∧ 0 ≤ snF p.A p.B p.n p.m s.k (p.sF s) - s.k ∧ snF p.A p.B p.n p.m s.k (p.sF s) - s.k ≤ p.m) ∧ p.sF s ≤ snF p.A p.B p.n p.m s.k (p.sF s)
  omega
theorem eB_bd {p : Pm} {s : St} (h : valid p s.k (p.sB s)) : valid p s.k (p.eB s) ∧ p.eB s ≤ p.sB s := by
  have := snB_bd p.A p.B s.k (p.sB s) h.1 h.2.2.1
  unfold valid at *
  show (0 ≤ snB p.A p.B s.k (p.sB s) ∧ snB p.A p.B s.k (p.sB s) ≤ p.n ∧ 0 ≤ snB p.A p.B s.k (p.sB s) - s.k ∧ snB p.A p.B s.k (p.sB s) - s.k ≤ p.m) ∧ snB p.A p.B s.k (p.sB s) ≤ p.sB s
  omega

theorem step_f1 {p : Pm} (hp : p.Sized) {s : St} (h : Inv p s) (hno : p.NoFin s) (hb : s.bk = false) (hk : s.k ≤ p.lastF s.d) : Inv p (p.nxt s) := by
  rw [nxt_f1 hb hk]
  obtain ⟨ha, hv, hl⟩ := sF_bd hp h hb hk
  obtain ⟨hv', he⟩ := eF_bd hv
  have b1 := firstF_bd hp h.d0
  have b2 := lastF_bd hp h.d0
  obtain ⟨k1, k2, k3⟩ := h.kF hb
  have hd0 := h.d0
  refine ⟨h.d0, h.d1, fun j => ?_, h.VG, fun _ => ?_, fun hh => (by cases hh), fun j hj => ?_, fun j hj hlt => ?_, h.WG, fun j _ hh => (by cases hh), fun ho hd => ?_, fun _ _ hh => (by cases hh), ?_, fun _ => ?_, fun hh => (by cases hh)⟩
  · by_cases e : j = s.k
    · subst e; right; dsimp only; rw [updZ_same]; exact hv'
    · dsimp only; rw [updZ_ne _ _ _ _ e]; exact h.VF j
  · show p.firstF s.d ≤ s.k + 2 ∧ s.k + 2 ≤ p.lastF s.d + 2 ∧ (s.k + 2 - s.d) % 2 = 0
    omega
  · have e : j ≠ s.k := by
      have := hj.2.2.2.2
      simp only at this
      omega
    dsimp only; rw [updZ_ne _ _ _ _ e]; exact h.WF j hj
  · have hlt' : j < s.k + 2 := hlt.resolve_left (by simp)
    by_cases e : j = s.k
    · subst e; dsimp only; rw [updZ_same]; show loF p s.d s.k ≤ _; omega
    · dsimp only; rw [updZ_ne _ _ _ _ e]
      refine h.WF2 j hj (.inr ?_)
      have := hj.2.2.2.2
      simp only at this
      omega
  · refine ⟨rfl, ?_⟩
    have hM := h.MO ho hd
    show s.k + 2 ≤ p.n - p.m
    by_cases e : s.k = p.n - p.m
    · exfalso
      refine hno.1 hb hk ⟨ho, ?_⟩
      have hodd := odd_true ho
      have hd' : s.d = p.n + p.m := hd
      have hg := h.WG s.k (by obtain ⟨n1, n2, m1, m2⟩ := hp; unfold actB; omega)
      have hvg := h.VG s.k
      unfold valid at hvg hv'
      unfold loF at hl
      obtain ⟨n1, n2, m1, m2⟩ := hp
      omega
    · have hd' : s.d = p.n + p.m := hd
      omega
  · show 0 ≤ s.cost + (1 + p.eF s - p.sF s)
    have := h.c0
    omega
  · show s.cost + (1 + p.eF s - p.sF s) ≤ 263169 * (2 * s.d) + 513 * ((s.k + 2 - p.firstF s.d) / 2)
    have := h.cF hb
    unfold valid at hv hv'
    obtain ⟨n1, n2, m1, m2⟩ := hp
    omega

theorem step_f2 {p : Pm} (hp : p.Sized) {s : St} (h : Inv p s) (hb : s.bk = false) (hk : ¬ s.k ≤ p.lastF s.d) : Inv p (p.nxt s) := by
  rw [nxt_f2 hb hk]
  have b1 := firstF_bd hp h.d0
  have b2 := lastF_bd hp h.d0
  have b3 := firstB_bd hp h.d0
  have b4 := lastB_bd hp h.d0
  obtain ⟨k1, k2, k3⟩ := h.kF hb
  have hd0 := h.d0
  refine ⟨h.d0, h.d1, h.VF, h.VG, fun hh => (by cases hh), fun _ => ?_, h.WF, fun j hj _ => ?_, h.WG, fun j hj _ hlt => ?_, fun ho hd => ?_, fun ho hd _ => ?_, h.c0, fun hh => (by cases hh), fun _ => ?_⟩
  · show p.firstB s.d ≤ p.firstB s.d ∧ p.firstB s.d ≤ p.lastB s.d + 2 ∧ (p.firstB s.d - (p.n - p.m) - s.d) % 2 = 0
    obtain ⟨n1, n2, m1, m2⟩ := hp
    omega
  · refine h.WF2 j hj (.inr ?_)
    unfold actF at hj
    simp only at hj
    omega
  · exfalso
    unfold actB at hj
    simp only at hj hlt
    omega
  · exfalso
    have hM := h.MO ho hd
    have hodd := odd_true ho
    have hd' : s.d = p.n + p.m := hd
    obtain ⟨n1, n2, m1, m2⟩ := hp
    omega
  · show p.firstB s.d ≤ p.n - p.m
    have hd' : s.d = p.n + p.m := hd
    have hev := odd_false ho
    obtain ⟨n1, n2, m1, m2⟩ := hp
    omega
  · show s.cost ≤ 263169 * (2 * s.d + 1) + 513 * ((p.firstB s.d - p.firstB s.d) / 2)
    have := h.cF hb
    obtain ⟨n1, n2, m1, m2⟩ := hp
    omega

theorem step_b1 {p : Pm} (hp : p.Sized) {s : St} (h : Inv p s) (hno : p.NoFin s) (hb : s.bk = true) (hk : s.k ≤ p.lastB s.d) : Inv p (p.nxt s) := by
  rw [nxt_b1 hb hk]
  obtain ⟨ha, hv, hl⟩ := sB_bd hp h hb hk
  obtain ⟨hv', he⟩ := eB_bd hv
  have b1 := firstB_bd hp h.d0
  have b2 := lastB_bd hp h.d0
  obtain ⟨k1, k2, k3⟩ := h.kB hb
  have hd0 := h.d0
  refine ⟨h.d0, h.d1, h.VF, fun j => ?_, fun hh => (by cases hh), fun _ => ?_, h.WF, fun j hj _ => h.WF2 j hj (.inl hb), fun j hj => ?_, fun j hj _ hlt => ?_, fun ho hd => ?_, fun ho hd _ => ?_, ?_, fun hh => (by cases hh), fun _ => ?_⟩
  · by_cases e : j = s.k
    · subst e; right; dsimp only; rw [updZ_same]; exact hv'
    · dsimp only; rw [updZ_ne _ _ _ _ e]; exact h.VG j
  · show p.firstB s.d ≤ s.k + 2 ∧ s.k + 2 ≤ p.lastB s.d + 2 ∧ (s.k + 2 - (p.n - p.m) - s.d) % 2 = 0
    omega
  · have e : j ≠ s.k := by
      have := hj.2.2.2.2
      simp only at this
      omega
    dsimp only; rw [updZ_ne _ _ _ _ e]; exact h.WG j hj
  · have hlt' : j < s.k + 2 := hlt
    by_cases e : j = s.k
    · subst e; dsimp only; rw [updZ_same]; show 0 ≤ p.eB s ∧ p.eB s ≤ hiB p s.d s.k
      exact ⟨hv'.1, by omega⟩
    · dsimp only; rw [updZ_ne _ _ _ _ e]
      refine h.WG2 j hj hb ?_
      have := hj.2.2.2.2
      simp only at this
      omega
  · exfalso
    have hM := h.MO ho hd
    rw [hb] at hM
    cases hM.1
  · show s.k + 2 ≤ p.n - p.m
    have hM := h.ME ho hd hb
    by_cases e : s.k = p.n - p.m
    · exfalso
      refine hno.2 hb hk ⟨ho, ?_⟩
      have hev := odd_false ho
      have hd' : s.d = p.n + p.m := hd
      have hf := h.WF2 s.k (by obtain ⟨n1, n2, m1, m2⟩ := hp; unfold actF; omega) (.inl hb)
      unfold valid at hv'
      unfold loF at hf
      obtain ⟨n1, n2, m1, m2⟩ := hp
      omega
    · have hd' : s.d = p.n + p.m := hd
      have hev := odd_false ho
      omega
  · show 0 ≤ s.cost + (1 + p.sB s - p.eB s)
    have := h.c0
    omega
  · show s.cost + (1 + p.sB s - p.eB s) ≤ 263169 * (2 * s.d + 1) + 513 * ((s.k + 2 - p.firstB s.d) / 2)
    have := h.cB hb
    unfold valid at hv hv'
    obtain ⟨n1, n2, m1, m2⟩ := hp
    omega

theorem step_b2 {p : Pm} (hp : p.Sized) {s : St} (h : Inv p s) (hb : s.bk = true) (hk : ¬ s.k ≤ p.lastB s.d) : Inv p (p.nxt s) := by
  rw [nxt_b2 hb hk]
  have hd0 := h.d0
  have b1 := firstB_bd hp h.d0
  have b2 := lastB_bd hp h.d0
  have b3 := firstF_bd hp (d := s.d + 1) (by omega)
  have b4 := lastF_bd hp (d := s.d + 1) (by omega)
  obtain ⟨k1, k2, k3⟩ := h.kB hb
  have e1 : s.d + 1 - 1 = s.d := by omega
  refine ⟨?_, ?_, h.VF, h.VG, fun _ => ?_, fun hh => (by cases hh), fun j hj => ?_, fun j hj hlt => ?_, fun j hj => ?_, fun j _ hh => (by cases hh), fun ho hd => ?_, fun _ _ hh => (by cases hh), h.c0, fun _ => ?_, fun hh => (by cases hh)⟩
  · show 0 ≤ s.d + 1; omega
  · show s.d + 1 ≤ p.n + p.m
    have hd1 := h.d1
    by_cases e : s.d = p.n + p.m
    · exfalso
      cases ho : p.odd with
      | true =>
        have hM := h.MO ho e
        rw [hb] at hM
        cases hM.1
      | false =>
        have hM := h.ME ho e hb
        have hev := odd_false ho
        obtain ⟨n1, n2, m1, m2⟩ := hp
        omega
    · omega
  · show p.firstF (s.d + 1) ≤ p.firstF (s.d + 1) ∧ p.firstF (s.d + 1) ≤ p.lastF (s.d + 1) + 2 ∧ (p.firstF (s.d + 1) - (s.d + 1)) % 2 = 0
    obtain ⟨n1, n2, m1, m2⟩ := hp
    omega
  · simp only [e1] at hj ⊢
    exact h.WF2 j hj (.inl hb)
  · exfalso
    have hlt' : j < p.firstF (s.d + 1) := hlt.resolve_left (by simp)
    unfold actF at hj
    simp only at hj
    omega
  · simp only [e1] at hj ⊢
    refine h.WG2 j hj hb ?_
    unfold actB at hj
    omega
  · refine ⟨rfl, ?_⟩
    show p.firstF (s.d + 1) ≤ p.n - p.m
    have hd' : s.d + 1 = p.n + p.m := hd
    have hodd := odd_true ho
    obtain ⟨n1, n2, m1, m2⟩ := hp
    omega
  · show s.cost ≤ 263169 * (2 * (s.d + 1)) + 513 * ((p.firstF (s.d + 1) - p.firstF (s.d + 1)) / 2)
    have := h.cB hb
    obtain ⟨n1, n2, m1, m2⟩ := hp
    omega

theorem inv_start {p : Pm} (hp : p.Sized) : Inv p (p.stAt 0) := by
  have b1 := firstF_bd hp (d := 0) (by omega)
  have b2 := lastF_bd hp (d := 0) (by omega)
  refine ⟨Int.le_refl _, ?_, fun _ => .inl rfl, fun _ => .inl rfl, fun _ => ?_, fun hh => (by cases hh), fun j hj => ?_, fun j hj hlt => ?_, fun j hj => ?_, fun j _ hh => (by cases hh), fun ho hd => ?_, fun _ _ hh => (by cases hh), Int.le_refl _, fun _ => ?_, fun hh => (by cases hh)⟩
  · show 0 ≤ p.n + p.m
    obtain ⟨n1, n2, m1, m2⟩ := hp
    omega
  · show p.firstF 0 ≤ p.firstF 0 ∧ p.firstF 0 ≤ p.lastF 0 + 2 ∧ (p.firstF 0 - 0) % 2 = 0
    obtain ⟨n1, n2, m1, m2⟩ := hp
    omega
  · exfalso
    have : actF p (0 - 1) j := hj
    unfold actF at this
    omega
  · exfalso
    have hlt' : j < p.firstF 0 := hlt.resolve_left (fun hh => by cases hh)
    have : actF p 0 j := hj
    unfold actF at this
    omega
  · exfalso
    have : actB p (0 - 1) j := hj
    unfold actB at this
    omega
  · exfalso
    have hd' : (0 : Int) = p.n + p.m := hd
    obtain ⟨n1, n2, m1, m2⟩ := hp
    omega
  · show (0 : Int) ≤ 263169 * (2 * 0) + 513 * ((p.firstF 0 - p.firstF 0) / 2)
    omega

theorem inv_step {p : Pm} (hp : p.Sized) {s : St} (h : Inv p s) (hno : p.NoFin s) : Inv p (p.nxt s) := by
  cases hb : s.bk with
  | false =>
    by_cases hk : s.k ≤ p.lastF s.d
    · exact step_f1 hp h hno hb hk
    · exact step_f2 hp h hb hk
  | true =>
    by_cases hk : s.k ≤ p.lastB s.d
    · exact step_b1 hp h hno hb hk
    · exact step_b2 hp h hb hk

theorem inv_all {p : Pm} (hp : p.Sized) : ∀ i, p.Clear i → Inv p (p.stAt i)
  | 0, _ => inv_start hp
  | i + 1, h => inv_step hp (inv_all hp i (fun j hj => h j (by omega))) (h i (by omega))

theorem all_safe {p : Pm} (hp : p.Sized) : p.AllSafe := by
  intro i hi
  have h := inv_all hp i hi
  generalize p.stAt i = s at h
  have hd0 := h.d0
  have hd1 := h.d1
  refine ⟨h.d0, h.d1, fun j => ?_, fun j => ?_, fun j => ?_, fun j => ?_, h.c0, ?_, fun hb hk => ?_, fun hb hk => ?_⟩
  · have := h.VF j; unfold valid at this; omega
  · have := h.VF j; unfold valid at this; obtain ⟨n1, n2, m1, m2⟩ := hp; omega
  · have := h.VG j; unfold valid at this; omega
  · have := h.VG j; unfold valid at this; obtain ⟨n1, n2, m1, m2⟩ := hp; omega
  · have b1 := firstF_bd hp h.d0
    have b2 := lastF_bd hp h.d0
    have b3 := firstB_bd hp h.d0
    have b4 := lastB_bd hp h.d0
    cases hb : s.bk with
    | false =>
      have := h.cF hb
      have := h.kF hb
      obtain ⟨n1, n2, m1, m2⟩ := hp
      omega
    | true =>
      have := h.cB hb
      have := h.kB hb
      obtain ⟨n1, n2, m1, m2⟩ := hp
      omega
  · obtain ⟨ha, hv, _⟩ := sF_bd hp h hb hk
    unfold actF at ha
    unfold valid at hv
    omega
  · obtain ⟨ha, hv, _⟩ := sB_bd hp h hb hk
    unfold actB at ha
    unfold valid at hv
    omega

end Go.Proofs.Qxb6601047a.Ms
