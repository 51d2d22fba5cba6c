/-
  THE PLAIN LAW OF THE BUDGET: no Go in sight.
-/
import Derived.Test.Qxb6601047aMsSafe
namespace Go.Proofs.Qxb6601047a.Ms

theorem fin_not {p : Pm} {s : St} {x y u v : Int} (h : p.Fin s x y u v) : ¬ p.NoFin s := by
  intro hn
  rcases h with ⟨h1, h2, h3, _⟩ | ⟨h1, h2, h3, _⟩
  · exact hn.1 h1 h2 h3
  · exact hn.2 h1 h2 h3

theorem fin_same {p : Pm} {s : St} {x y u v x' y' u' v' : Int} (h : p.Fin s x y u v) (h' : p.Fin s x' y' u' v') : x' = x ∧ y' = y ∧ u' = u ∧ v' = v := by
  rcases h with ⟨h1, _, _, e1, e2, e3, e4⟩ | ⟨h1, _, _, e1, e2, e3, e4⟩
  · rcases h' with ⟨_, _, _, f1, f2, f3, f4⟩ | ⟨h1', _⟩
    · exact ⟨f1.trans e1.symm, f2.trans e2.symm, f3.trans e3.symm, f4.trans e4.symm⟩
    · rw [h1] at h1'; cases h1'
  · rcases h' with ⟨h1', _⟩ | ⟨_, _, _, f1, f2, f3, f4⟩
    · rw [h1] at h1'; cases h1'
    · exact ⟨f1.trans e1.symm, f2.trans e2.symm, f3.trans e3.symm, f4.trans e4.symm⟩

theorem cost_step {p : Pm} (hp : p.Sized) (i : Nat) (hc : p.Clear i) : (p.stAt i).cost ≤ (p.stAt (i + 1)).cost := by
  have h := inv_all hp i hc
  show _ ≤ (p.nxt (p.stAt i)).cost
  generalize p.stAt i = s at h
  cases hb : s.bk with
  | false =>
    by_cases hk : s.k ≤ p.lastF s.d
    · rw [nxt_f1 hb hk]
      obtain ⟨_, hv, _⟩ := sF_bd hp h hb hk
      have := (eF_bd hv).2
      show s.cost ≤ s.cost + (1 + p.eF s - p.sF s)
      omega
    · rw [nxt_f2 hb hk]; exact Int.le_refl _
  | true =>
    by_cases hk : s.k ≤ p.lastB s.d
    · rw [nxt_b1 hb hk]
      obtain ⟨_, hv, _⟩ := sB_bd hp h hb hk
      have := (eB_bd hv).2
      show s.cost ≤ s.cost + (1 + p.sB s - p.eB s)
      omega
    · rw [nxt_b2 hb hk]; exact Int.le_refl _

theorem clear_le {p : Pm} {i j : Nat} (h : p.Clear j) (hij : i ≤ j) : p.Clear i := fun k hk => h k (by omega)

theorem cost_mono {p : Pm} (hp : p.Sized) (i : Nat) : ∀ t, p.Clear (i + t) → (p.stAt i).cost ≤ (p.stAt (i + t)).cost
  | 0, _ => Int.le_refl _
  | t + 1, h => Int.le_trans (cost_mono hp i t (clear_le h (by omega))) (cost_step hp (i + t) (clear_le h (by omega)))

theorem noFin_zero (p : Pm) : p.NoFin (p.stAt 0) := by
  refine ⟨fun _ _ hh => ?_, fun hb _ => by cases hb⟩
  have : (0 : Int) ≤ -1 := hh.2.1
  omega

theorem cost_one {p : Pm} (hp : p.Sized) : 1 ≤ (p.stAt 1).cost := by
  have h := inv_all hp 0 (fun j hj => absurd hj (Nat.not_lt_zero _))
  have hb : (p.stAt 0).bk = false := rfl
  have b1 := firstF_bd hp (d := 0) (by omega)
  have b2 := lastF_bd hp (d := 0) (by omega)
  have hk : (p.stAt 0).k ≤ p.lastF (p.stAt 0).d := by
    show p.firstF 0 ≤ p.lastF 0
    obtain ⟨n1, n2, m1, m2⟩ := hp
    omega
  obtain ⟨_, hv, _⟩ := sF_bd hp h hb hk
  have := (eF_bd hv).2
  show 1 ≤ (p.nxt (p.stAt 0)).cost
  rw [nxt_f1 hb hk]
  have hc : (p.stAt 0).cost = 0 := rfl
  show 1 ≤ (p.stAt 0).cost + (1 + p.eF (p.stAt 0) - p.sF (p.stAt 0))
  omega

/-- a call with 2^30 steps ends with a run; what it spent -/
theorem out_big {p : Pm} (hp : p.Sized) {x y u v : Int} {b : Bool} {L' : Int} (h : p.Out 1073741824 x y u v b L') :
    ∃ t, p.Clear t ∧ p.Fin (p.stAt t) x y u v ∧ b = true ∧ L' = 1073741824 - (p.stAt t).cost ∧ 1 ≤ (p.stAt t).cost ∧ (p.stAt t).cost ≤ 1073741824 := by
  obtain ⟨t, hc, h | h⟩ := h
  · obtain ⟨hf, hb, hl, _⟩ := h
    have ht : t ≠ 0 := by rintro rfl; exact fin_not hf (noFin_zero p)
    obtain ⟨t', rfl⟩ : ∃ t', t = 1 + t' := ⟨t - 1, by omega⟩
    refine ⟨_, hc, hf, hb, hl, ?_, (all_safe hp _ hc).c1⟩
    have := cost_mono hp 1 t' hc
    have := cost_one hp
    omega
  · exfalso
    obtain ⟨hn, _, _, _, _, _, hl, hneg⟩ := h
    have := (all_safe hp _ (Pm.clear_succ hc hn)).c1
    omega

/-- THE LAW -/
theorem budget {p : Pm} (hp : p.Sized) {x0 y0 u0 v0 : Int} {ok0 : Bool} {big : Int} (h0 : p.Out 1073741824 x0 y0 u0 v0 ok0 big)
    {L x y u v : Int} {ok : Bool} {left : Int} (h : p.Out L x y u v ok left) :
    ok0 = true ∧ 0 ≤ big ∧ big < 1073741824 ∧
    (1073741824 - big ≤ L → ok = true ∧ x = x0 ∧ y = y0 ∧ u = u0 ∧ v = v0 ∧ left = L - (1073741824 - big)) ∧
    (¬ 1073741824 - big ≤ L → ok = false ∧ x = 0 ∧ y = 0 ∧ u = 0 ∧ v = 0 ∧ left < 0) := by
  obtain ⟨t0, hc0, hf0, hb0, hl0, q1, q2⟩ := out_big hp h0
  refine ⟨hb0, by omega, by omega, ?_⟩
  obtain ⟨t, hc, h | h⟩ := h
  · obtain ⟨hf, hb, hl, hn⟩ := h
    have e : t = t0 := by
      rcases Nat.lt_trichotomy t t0 with hlt | he | hgt
      · exact absurd (hc0 t hlt) (fin_not hf)
      · exact he
      · exact absurd (hc t0 hgt) (fin_not hf0)
    subst e
    obtain ⟨e1, e2, e3, e4⟩ := fin_same hf0 hf
    refine ⟨fun _ => ⟨hb, e1, e2, e3, e4, by omega⟩, fun hlt => ?_⟩
    exfalso
    omega
  · obtain ⟨hn, hb, e1, e2, e3, e4, hl, hneg⟩ := h
    have hc' := Pm.clear_succ hc hn
    have hle : t + 1 ≤ t0 := by
      rcases Nat.lt_or_ge t t0 with hlt | hge
      · exact hlt
      · exfalso
        by_cases e : t = t0
        · subst e; exact fin_not hf0 hn
        · exact fin_not hf0 (hc t0 (by omega))
    obtain ⟨r, rfl⟩ : ∃ r, t0 = t + 1 + r := ⟨t0 - (t + 1), by omega⟩
    have := cost_mono hp (t + 1) r hc0
    refine ⟨fun hle => ?_, fun _ => ⟨hb, e1, e2, e3, e4, hneg⟩⟩
    exfalso
    omega

end Go.Proofs.Qxb6601047a.Ms
