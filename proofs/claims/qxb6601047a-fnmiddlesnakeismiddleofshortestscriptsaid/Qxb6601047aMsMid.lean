/-
  THE MIDDLE OF A CHEAPEST WAY: the invariant carried through the search, and the law at the meeting: plain, no Go in sight.
-/
import Derived.Test.Qxb6601047aMsMyers
namespace Go.Proofs.Qxb6601047a.Ms

theorem T_bd {p : Pm} (hp : p.Sized) : 0 ≤ p.T ∧ (p.T - (p.n + p.m)) % 2 = 0 := by
  obtain ⟨n1, n2, m1, m2⟩ := hp
  have := D_abs (A := p.A) (B := p.B) (x := p.n) (y := p.m) (by omega) (by omega)
  have h2 := D_par p.A p.B p.n p.m
  exact ⟨by unfold Pm.T Pm.D; omega, h2⟩

theorem step2_f1 {p : Pm} (hp : p.Sized) {s : St} (h : Inv p s) (h2 : Inv2 p s) (hno : p.NoFin s) (hb : s.bk = false) (hk : s.k ≤ p.lastF s.d) : Inv2 p (p.nxt s) := by
  rw [nxt_f1 hb hk]
  obtain ⟨ha, hv, hl⟩ := sF_bd hp h hb hk
  obtain ⟨hv', he⟩ := eF_bd hv
  have hsD := sF_D hp h h2 hb hk
  have hfar := eF_far hp h h2 hb hk
  have heD := eF_D hv
  obtain ⟨k1, k2, k3⟩ := h.kF hb
  have hd0 := h.d0
  refine ⟨fun j hj => ?_, h2.SG, fun _ => h2.SG' hb, fun j hj => ?_, fun j hj hlt => ?_, h2.CG, fun j _ hh => (by cases hh), fun ho _ => ?_, fun _ hh => (by cases hh), h2.TE, fun _ hh => (by cases hh)⟩
  · by_cases e : j = s.k
    · subst e; dsimp only; rw [updZ_same, heD]; exact hsD
    · dsimp only at hj ⊢; rw [updZ_ne _ _ _ _ e] at *; exact h2.SF j hj
  · have e : j ≠ s.k := by
      have := hj.2.2.2.2
      simp only at this
      omega
    dsimp only; rw [updZ_ne _ _ _ _ e]; exact h2.CF j hj
  · have hlt' : j < s.k + 2 := hlt.resolve_left (by simp)
    by_cases e : j = s.k
    · subst e; dsimp only; rw [updZ_same]; exact hfar
    · dsimp only; rw [updZ_ne _ _ _ _ e]
      refine h2.CF2 j hj (.inr ?_)
      have := hj.2.2.2.2
      simp only at this
      omega
  · obtain ⟨t1, t2⟩ := h2.TO ho hb
    refine ⟨t1, fun hT x y x0 x1 y0 y1 hD hE => ?_⟩
    have hD' : p.D x y ≤ s.d := hD
    have hE' : p.E x y ≤ s.d - 1 := hE
    have hT' : p.T = 2 * s.d - 1 := hT
    have g := t2 hT x y x0 x1 y0 y1 hD hE
    have hDE := DE (p := p) x0 x1 y0 y1
    have hpar := D_par p.A p.B x y
    show s.k + 2 ≤ x - y
    by_cases e : x - y = s.k
    · exfalso
      refine hno.1 hb hk ⟨ho, ?_⟩
      have hodd := odd_true ho
      have hab := E_abs (p := p) x1 y1
      have hact : actB p (s.d - 1) s.k := by unfold actB; unfold actF at ha; omega
      have hG := h2.CG s.k hact x (by unfold valid; omega) (by rw [show x - s.k = y from by omega]; exact hE')
      have hG0 := (h.WG s.k hact).1
      have hF := hfar x (by unfold valid; omega) (by rw [show x - s.k = y from by omega]; exact hD')
      exact ⟨hG0, by omega⟩
    · unfold Pm.D at *
      omega

theorem step2_f2 {p : Pm} (hp : p.Sized) {s : St} (h : Inv p s) (h2 : Inv2 p s) (hb : s.bk = false) (hk : ¬ s.k ≤ p.lastF s.d) : Inv2 p (p.nxt s) := by
  rw [nxt_f2 hb hk]
  have b1 := firstF_bd hp h.d0
  have b2 := lastF_bd hp h.d0
  have b3 := firstB_bd hp h.d0
  obtain ⟨k1, k2, k3⟩ := h.kF hb
  have hd0 := h.d0
  obtain ⟨T0, T1⟩ := T_bd hp
  refine ⟨h2.SF, h2.SG, fun hh => (by cases hh), h2.CF, fun j hj _ => ?_, h2.CG, fun j hj _ hlt => ?_, fun _ hh => (by cases hh), fun ho _ => ?_, h2.TE, fun ho _ hT x y x0 x1 y0 y1 hD hE => ?_⟩
  · refine h2.CF2 j hj (.inr ?_)
    unfold actF at hj
    simp only at hj
    omega
  · exfalso
    unfold actB at hj
    simp only at hj hlt
    omega
  · show 2 * s.d + 1 ≤ p.T
    obtain ⟨t1, t2⟩ := h2.TO ho hb
    have hodd := odd_true ho
    by_cases e : p.T = 2 * s.d - 1
    · exfalso
      obtain ⟨x, y, x0, x1, y0, y1, hD, hE⟩ := mid hp s.d hd0 (by omega)
      have g := t2 e x y x0 x1 y0 y1 (by omega) (by omega)
      have hab := D_abs (A := p.A) (B := p.B) x0 y0
      have hpar := D_par p.A p.B x y
      unfold Pm.D at hD
      omega
    · omega
  · show p.firstB s.d ≤ x - y
    have hE' : p.E x y ≤ s.d := hE
    have hab := E_abs (p := p) x1 y1
    have hpar := E_par p x y
    have hDE := DE (p := p) x0 x1 y0 y1
    have hD' : p.D x y ≤ s.d := hD
    have hT' : p.T = 2 * s.d := hT
    omega

theorem step2_b1 {p : Pm} (hp : p.Sized) {s : St} (h : Inv p s) (h2 : Inv2 p s) (hno : p.NoFin s) (hb : s.bk = true) (hk : s.k ≤ p.lastB s.d) : Inv2 p (p.nxt s) := by
  rw [nxt_b1 hb hk]
  obtain ⟨ha, hv, hl⟩ := sB_bd hp h hb hk
  obtain ⟨hv', he⟩ := eB_bd hv
  have hsE := sB_E hp h h2 hb hk
  have hfar := eB_far hp h h2 hb hk
  have heE := eB_E hv
  obtain ⟨k1, k2, k3⟩ := h.kB hb
  have hd0 := h.d0
  refine ⟨h2.SF, fun j hj => ?_, fun hh => (by cases hh), h2.CF, fun j hj _ => h2.CF2 j hj (.inl hb), fun j hj => ?_, fun j hj _ hlt => ?_, fun _ hh => (by cases hh), fun ho _ => h2.TO' ho hb, h2.TE, fun ho _ hT x y x0 x1 y0 y1 hD hE => ?_⟩
  · by_cases e : j = s.k
    · subst e; dsimp only; rw [updZ_same, heE]; exact hsE
    · dsimp only at hj ⊢; rw [updZ_ne _ _ _ _ e] at *; exact h2.SG j hj
  · have e : j ≠ s.k := by
      have := hj.2.2.2.2
      simp only at this
      omega
    dsimp only; rw [updZ_ne _ _ _ _ e]; exact h2.CG j hj
  · have hlt' : j < s.k + 2 := hlt
    by_cases e : j = s.k
    · subst e; dsimp only; rw [updZ_same]; exact hfar
    · dsimp only; rw [updZ_ne _ _ _ _ e]
      refine h2.CG2 j hj hb ?_
      have := hj.2.2.2.2
      simp only at this
      omega
  · have g := h2.TE' ho hb hT x y x0 x1 y0 y1 hD hE
    have hD' : p.D x y ≤ s.d := hD
    have hE' : p.E x y ≤ s.d := hE
    have hT' : p.T = 2 * s.d := hT
    have hDE := DE (p := p) x0 x1 y0 y1
    have hpar := D_par p.A p.B x y
    have hev := odd_false ho
    show s.k + 2 ≤ x - y
    by_cases e : x - y = s.k
    · exfalso
      refine hno.2 hb hk ⟨ho, ?_⟩
      have hab := D_abs (A := p.A) (B := p.B) x0 y0
      have hact : actF p s.d s.k := by unfold actF; unfold actB at ha; unfold Pm.D at hD'; omega
      have hF := h2.CF2 s.k hact (.inl hb) x (by unfold valid; omega) (by rw [show x - s.k = y from by omega]; exact hD')
      have hG := hfar x (by unfold valid; omega) (by rw [show x - s.k = y from by omega]; exact hE')
      exact ⟨by omega, by omega⟩
    · unfold Pm.D at *
      omega

theorem step2_b2 {p : Pm} (hp : p.Sized) {s : St} (h : Inv p s) (h2 : Inv2 p s) (hb : s.bk = true) (hk : ¬ s.k ≤ p.lastB s.d) : Inv2 p (p.nxt s) := by
  rw [nxt_b2 hb hk]
  have hd0 := h.d0
  have b1 := firstB_bd hp h.d0
  have b2 := lastB_bd hp h.d0
  have b3 := firstF_bd hp (d := s.d + 1) (by omega)
  obtain ⟨k1, k2, k3⟩ := h.kB hb
  obtain ⟨T0, T1⟩ := T_bd hp
  have e1 : s.d + 1 - 1 = s.d := by omega
  refine ⟨fun j hj => ?_, fun j hj => ?_, fun _ j hj => ?_, fun j hj => ?_, fun j hj hlt => ?_, fun j hj => ?_, fun j _ hh => (by cases hh), fun ho _ => ⟨?_, fun hT x y x0 x1 y0 y1 hD hE => ?_⟩, fun _ hh => (by cases hh), fun ho => ?_, fun _ hh => (by cases hh)⟩
  · have := h2.SF j hj
    show p.D (s.F j) (s.F j - j) ≤ s.d + 1
    omega
  · have := h2.SG j hj
    show p.E (s.G j) (s.G j - j) ≤ s.d + 1
    omega
  · have := h2.SG j hj
    show p.E (s.G j) (s.G j - j) ≤ s.d + 1 - 1
    omega
  · simp only [e1] at hj ⊢
    exact h2.CF2 j hj (.inl hb)
  · exfalso
    have hlt' : j < p.firstF (s.d + 1) := hlt.resolve_left (by simp)
    unfold actF at hj
    simp only at hj
    omega
  · simp only [e1] at hj ⊢
    refine h2.CG2 j hj hb ?_
    unfold actB at hj
    omega
  · have := h2.TO' ho hb
    show 2 * (s.d + 1) - 1 ≤ p.T
    omega
  · show p.firstF (s.d + 1) ≤ x - y
    have hD' : p.D x y ≤ s.d + 1 := hD
    have hE' : p.E x y ≤ s.d + 1 - 1 := hE
    have hT' : p.T = 2 * (s.d + 1) - 1 := hT
    have hab := D_abs (A := p.A) (B := p.B) x0 y0
    have hpar := D_par p.A p.B x y
    have hDE := DE (p := p) x0 x1 y0 y1
    unfold Pm.D at *
    omega
  · show 2 * (s.d + 1) ≤ p.T
    have t1 := h2.TE ho
    have hev := odd_false ho
    by_cases e : p.T = 2 * s.d
    · exfalso
      obtain ⟨x, y, x0, x1, y0, y1, hD, hE⟩ := mid hp s.d hd0 (by omega)
      have g := h2.TE' ho hb e x y x0 x1 y0 y1 (by omega) (by omega)
      have hab := E_abs (p := p) x1 y1
      have hpar := E_par p x y
      omega
    · omega

theorem inv2_start {p : Pm} (hp : p.Sized) : Inv2 p (p.stAt 0) := by
  have b1 := firstF_bd hp (d := 0) (by omega)
  obtain ⟨T0, T1⟩ := T_bd hp
  refine ⟨fun j hj => ?_, fun j hj => ?_, fun _ j hj => ?_, fun j hj => ?_, fun j hj hlt => ?_, fun j hj => ?_, fun j _ hh => (by cases hh), fun ho _ => ⟨?_, fun hT x y x0 x1 y0 y1 hD hE => ?_⟩, fun _ hh => (by cases hh), fun ho => ?_, fun _ hh => (by cases hh)⟩
  · have : (0 : Int) ≤ -1 := hj
    omega
  · have : (0 : Int) ≤ -1 := hj
    omega
  · have : (0 : Int) ≤ -1 := hj
    omega
  · exfalso
    have : actF p (0 - 1) j := hj
    unfold actF at this
    omega
  · exfalso
    have hlt' : j < p.firstF 0 := hlt.resolve_left (fun hh => by cases hh)
    have : actF p 0 j := hj
    unfold actF at this
    omega
  · exfalso
    have : actB p (0 - 1) j := hj
    unfold actB at this
    omega
  · show 2 * (0 : Int) - 1 ≤ p.T
    omega
  · exfalso
    have hT' : p.T = 2 * 0 - 1 := hT
    omega
  · show 2 * (0 : Int) ≤ p.T
    omega

theorem inv2_all {p : Pm} (hp : p.Sized) : ∀ i, p.Clear i → Inv2 p (p.stAt i)
  | 0, _ => inv2_start hp
  | i + 1, hc => by
    have h := inv_all hp i (fun j hj => hc j (by omega))
    have h2 := inv2_all hp i (fun j hj => hc j (by omega))
    have hno := hc i (by omega)
    show Inv2 p (p.nxt (p.stAt i))
    generalize p.stAt i = s at *
    cases hb : s.bk with
    | false =>
      by_cases hk : s.k ≤ p.lastF s.d
      · exact step2_f1 hp h h2 hno hb hk
      · exact step2_f2 hp h h2 hb hk
    | true =>
      by_cases hk : s.k ≤ p.lastB s.d
      · exact step2_b1 hp h h2 hno hb hk
      · exact step2_b2 hp h h2 hb hk

/-- THE LAW: the run that is found is the middle of a cheapest way. -/
theorem middle {p : Pm} (hp : p.Sized) {t : Nat} (hc : p.Clear t) {x y u v : Int} (hf : p.Fin (p.stAt t) x y u v) :
    0 ≤ x ∧ x ≤ u ∧ u ≤ p.n ∧ 0 ≤ y ∧ y ≤ v ∧ v ≤ p.m ∧ u - x = v - y ∧ (∀ i, 0 ≤ i → i < u - x → p.A (x + i) = p.B (y + i)) ∧ p.D x y + p.E u v = p.T ∧ p.D x y = (p.T + 1) / 2 := by
  have h := inv_all hp t hc
  have h2 := inv2_all hp t hc
  generalize p.stAt t = s at *
  obtain ⟨T0, T1⟩ := T_bd hp
  rcases hf with ⟨hb, hk, ⟨ho, g0, g1⟩, rfl, rfl, rfl, rfl⟩ | ⟨hb, hk, ⟨ho, g0, g1⟩, rfl, rfl, rfl, rfl⟩
  · obtain ⟨ha, hv, hl⟩ := sF_bd hp h hb hk
    obtain ⟨hv', he⟩ := eF_bd hv
    have hsD := sF_D hp h h2 hb hk
    have heD := eF_D hv
    have hG := h2.SG' hb s.k g0
    have hE : p.E (p.eF s) (p.eF s - s.k) ≤ p.E (s.G s.k) (s.G s.k - s.k) := E_le (by unfold valid at hv'; omega) (by unfold valid at hv'; omega) g1
    have hT := (h2.TO ho hb).1
    have hDE := DE (p := p) (x := p.eF s) (y := p.eF s - s.k) (by unfold valid at hv'; omega) (by unfold valid at hv'; omega) (by unfold valid at hv'; omega) (by unfold valid at hv'; omega)
    have hrun : ∀ i, 0 ≤ i → i < p.eF s - p.sF s → p.A (p.sF s + i) = p.B (p.sF s - s.k + i) := by
      intro i h0 h1
      have := extF_run p.A p.B p.n p.m s.k _ (p.sF s) (p.sF s + i) (by omega) (show p.sF s + i < p.eF s by omega)
      rw [show p.sF s - s.k + i = p.sF s + i - s.k from by omega]
      exact this
    refine ⟨by unfold valid at hv; omega, he, by unfold valid at hv'; omega, by unfold valid at hv; omega, by omega, by unfold valid at hv'; omega, by omega, hrun, by omega, by omega⟩
  · obtain ⟨ha, hv, hl⟩ := sB_bd hp h hb hk
    obtain ⟨hv', he⟩ := eB_bd hv
    have hsE := sB_E hp h h2 hb hk
    have heE := eB_E hv
    have hF := h2.SF s.k g0
    have hD : p.D (p.eB s) (p.eB s - s.k) ≤ p.D (s.F s.k) (s.F s.k - s.k) := D_le p.A p.B (by unfold valid at hv'; omega) (by unfold valid at hv'; omega) g1
    have hT := h2.TE ho
    have hDE := DE (p := p) (x := p.eB s) (y := p.eB s - s.k) (by unfold valid at hv'; omega) (by unfold valid at hv'; omega) (by unfold valid at hv'; omega) (by unfold valid at hv'; omega)
    have hrun : ∀ i, 0 ≤ i → i < p.sB s - p.eB s → p.A (p.eB s + i) = p.B (p.eB s - s.k + i) := by
      intro i h0 h1
      have := extB_run p.A p.B s.k _ (p.sB s) (p.eB s + i) (show p.eB s ≤ p.eB s + i by omega) (by omega)
      rw [show p.eB s - s.k + i = p.eB s + i - s.k from by omega]
      exact this
    refine ⟨by unfold valid at hv'; omega, he, by unfold valid at hv; omega, by unfold valid at hv'; omega, by omega, by unfold valid at hv; omega, by omega, hrun, by omega, by omega⟩

end Go.Proofs.Qxb6601047a.Ms
