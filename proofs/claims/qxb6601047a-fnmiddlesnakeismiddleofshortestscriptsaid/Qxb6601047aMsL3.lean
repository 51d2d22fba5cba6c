import Derived.Test.Qxb6601047aMsB3
namespace Go.Proofs.Qxb6601047a
open Go.RowKit
set_option linter.unusedSimpArgs false
set_option linter.unusedVariables false

def Cx.pm (c : Cx) : Ms.Pm := ⟨c.A, c.B, c.n, c.m⟩

/-- the search has come to its state i, and the memory holds that state -/
structure Sit (c : Cx) (L : Int) (i : Nat) (w : World) : Prop where
  clear : c.pm.Clear i
  mem : Mem c (c.pm.stAt i).F (c.pm.stAt i).G (L - (c.pm.stAt i).cost) w
  nn : (c.pm.stAt i).cost = 0 ∨ 0 ≤ L - (c.pm.stAt i).cost

set_option maxRecDepth 100000 in
set_option maxHeartbeats 1000000 in
theorem h16 {c : Cx} {odd : Bool} {d last k : Int} {w : World} {a : Act} {Q : Exit → Act → World → Prop}
    (hS : S0 c odd d last k a) (hE : last < k → ∀ a', S0 c odd d last k a' → Q (.exit 4) a' w) (hN : k ≤ last → ∀ a', S0 c odd d last k a' → Q .normal a' w) : Wp34 [1, 1, 1, 1, 1, 1, 1, 0, 1, 0, 0, 1, 0, 0, 1, 0, 1, 0, 0, 0] Q a w := by
  unfold Wp34
  conv => arg 2; whnf
  obtain ⟨⟨ok, s0, s1, s2, s11, s12, s13, s14, s15, s16, s18⟩, s19, s21, s22⟩ := hS
  rw [Fr_of ok]
  generalize slot a = s at *
  unfold Fr
  simp only [s0, s1, s2, s11, s12, s13, s14, s15, s16, s18, s19, s21, s22]
  clear s0 s1 s2 s11 s12 s13 s14 s15 s16 s18 s19 s21 s22 ok
  by_cases c1 : k ≤ last
  · go_wp2
    exact hN c1 _ ⟨⟨⟨rfl, rfl⟩, rfl, rfl, rfl, rfl, rfl, rfl, rfl, rfl, rfl, rfl⟩, rfl, rfl, rfl⟩
  · go_wp2
    exact hE (by omega) _ ⟨⟨⟨rfl, rfl⟩, rfl, rfl, rfl, rfl, rfl, rfl, rfl, rfl, rfl, rfl⟩, rfl, rfl, rfl⟩

set_option maxRecDepth 100000 in
set_option maxHeartbeats 1000000 in
theorem r17 {c : Cx} {odd : Bool} {d last k : Int} {w : World} {a : Act} {Q : Exit → Act → World → Prop}
    (hS : S0 c odd d last k a) (k1 : -100000 ≤ k) (k2 : k ≤ 100000) (hN : ∀ a', S0 c odd d last (k + 2) a' → Q .normal a' w) : Wp34 [1, 1, 1, 1, 1, 1, 1, 0, 1, 0, 0, 1, 0, 0, 1, 0, 1, 0, 0, 1, 1] Q a w := by
  unfold Wp34
  conv => arg 2; whnf
  obtain ⟨⟨ok, s0, s1, s2, s11, s12, s13, s14, s15, s16, s18⟩, s19, s21, s22⟩ := hS
  rw [Fr_of ok]
  generalize slot a = s at *
  unfold Fr
  simp only [s0, s1, s2, s11, s12, s13, s14, s15, s16, s18, s19, s21, s22]
  clear s0 s1 s2 s11 s12 s13 s14 s15 s16 s18 s19 s21 s22 ok
  go_wp2
  exact ⟨⟨⟨rfl, rfl⟩, rfl, rfl, rfl, rfl, rfl, rfl, rfl, rfl, rfl, rfl⟩, rfl, rfl, rfl⟩

theorem Ms.nxt_f1 {p : Ms.Pm} {s : Ms.St} (h1 : s.bk = false) (h2 : s.k ≤ p.lastF s.d) : p.nxt s = ⟨s.d, false, s.k + 2, Ms.updZ s.F s.k (p.eF s), s.G, s.cost + (1 + p.eF s - p.sF s)⟩ := by
  unfold Ms.Pm.nxt; rw [if_pos h1, if_pos h2]
theorem Ms.nxt_f2 {p : Ms.Pm} {s : Ms.St} (h1 : s.bk = false) (h2 : ¬ s.k ≤ p.lastF s.d) : p.nxt s = ⟨s.d, true, p.firstB s.d, s.F, s.G, s.cost⟩ := by
  unfold Ms.Pm.nxt; rw [if_pos h1, if_neg h2]
theorem Ms.nxt_b1 {p : Ms.Pm} {s : Ms.St} (h1 : s.bk = true) (h2 : s.k ≤ p.lastB s.d) : p.nxt s = ⟨s.d, true, s.k + 2, s.F, Ms.updZ s.G s.k (p.eB s), s.cost + (1 + p.sB s - p.eB s)⟩ := by
  unfold Ms.Pm.nxt; rw [if_neg (by simp [h1]), if_pos h2]
theorem Ms.nxt_b2 {p : Ms.Pm} {s : Ms.St} (h1 : s.bk = true) (h2 : ¬ s.k ≤ p.lastB s.d) : p.nxt s = ⟨s.d + 1, false, p.firstF (s.d + 1), s.F, s.G, s.cost⟩ := by
  unfold Ms.Pm.nxt; rw [if_neg (by simp [h1]), if_neg h2]

set_option maxHeartbeats 1000000 in
/-- the forward phase of one round -/
theorem loop3 {c : Cx} (hc : c.Fits) (hsafe : c.pm.AllSafe) {L d : Int} {i : Nat} {w : World} {a : Act} {Q : Exit → Act → World → Prop}
    (l1 : -1073741824 ≤ L) (l2 : L ≤ 1073741824)
    (hI : Sit c L i w) (hbk : (c.pm.stAt i).bk = false) (hd : (c.pm.stAt i).d = d) (hS : S0 c c.pm.odd d (c.pm.lastF d) (c.pm.stAt i).k a)
    (hR : ∀ a' w' x y u v b L', RetS x y u v b a' → (∃ F G, Mem c F G L' w') → c.pm.Out L x y u v b L' → Q .ret a' w')
    (hE : ∀ a' w' i', Sit c L i' w' → (c.pm.stAt i').bk = true → (c.pm.stAt i').d = d → (c.pm.stAt i').k = c.pm.firstB d → Base c c.pm.odd a' → slot a' 19 = .int .i64 d → Q (.exit 4) a' w') :
    Wp34 [1, 1, 1, 1, 1, 1, 1, 0, 1, 0, 0, 1, 0, 0, 1, 0, 1, 0] Q a w := by
  refine wp_loop (fun a w => ∃ i, Sit c L i w ∧ (c.pm.stAt i).bk = false ∧ (c.pm.stAt i).d = d ∧ S0 c c.pm.odd d (c.pm.lastF d) (c.pm.stAt i).k a) (fun a _ => (c.pm.lastF d + 2 - intOf (slot a 22)).toNat)
    ⟨i, hI, hbk, hd, hS⟩ ?_
  clear hI hbk hd hS i a w
  rintro a w ⟨i, hI, hbk, hd, hS⟩
  have hmu : intOf (slot a 22) = (c.pm.stAt i).k := by rw [hS.s22]; rfl
  rw [hmu]
  have sf := hsafe i hI.clear
  generalize hs : c.pm.stAt i = s at *
  refine wp_mid (fun a' w' => s.k ≤ c.pm.lastF d ∧ S0 c c.pm.odd d (c.pm.lastF d) s.k a' ∧ Sit c L i w') (h16 hS (fun hlt a' h => ?_) (fun hle a' h => ⟨hle, h, hI⟩)) ?_
  · have hn : c.pm.stAt (i + 1) = ⟨s.d, true, c.pm.firstB s.d, s.F, s.G, s.cost⟩ := by
      show c.pm.nxt (c.pm.stAt i) = _
      rw [hs]
      exact Ms.nxt_f2 hbk (by rw [hd]; omega)
    refine hE a' w (i + 1) ⟨Ms.Pm.clear_succ hI.clear ⟨fun _ hk => ?_, fun hb _ => ?_⟩, ?_, ?_⟩ (by rw [hn]) (by rw [hn]; exact hd) (by rw [hn, hd]) h.base h.s19
    · rw [hs, hd] at hk; omega
    · rw [hs, hbk] at hb; cases hb
    · rw [hn]; have := hI.mem; rw [hs] at this; exact this
    · rw [hn]; have := hI.nn; rw [hs] at this; exact this
  rintro a w ⟨hle, hS, hI⟩
  have hle' : s.k ≤ c.pm.lastF s.d := by rw [hd]; exact hle
  obtain ⟨k1, k2, t1, t2, t3, t4⟩ := sf.f hbk hle'
  have hM := hI.mem
  have hnn := hI.nn
  rw [hs] at hM hnn
  have hcn := hc.hn
  have hcm := hc.hm
  have q1 := sf.c0
  have q2 := sf.c1
  have q3 := sf.d0
  have en : c.pm.n = c.n := rfl
  have em : c.pm.m = c.m := rfl
  have hst : c.pm.sF s = Ms.startF c.n c.m s.F d s.k := by unfold Ms.Pm.sF; rw [hd]; rfl
  have hx : c.pm.eF s = Ms.snF c.A c.B c.n c.m s.k (c.pm.sF s) := rfl
  have hn : c.pm.stAt (i + 1) = ⟨s.d, false, s.k + 2, Ms.updZ s.F s.k (c.pm.eF s), s.G, s.cost + (1 + c.pm.eF s - c.pm.sF s)⟩ := by
    show c.pm.nxt (c.pm.stAt i) = _
    rw [hs]
    exact Ms.nxt_f1 hbk hle'
  have hb := Ms.snF_bd c.A c.B c.n c.m s.k (c.pm.sF s) t2 t4
  rw [← hx] at hb
  refine wp_mid (fun a' w' => S0 c c.pm.odd d (c.pm.lastF d) s.k a' ∧ Sit c L (i + 1) w') (wp_block (body3 hc hS hM k1 k2 (by rw [← hd]; exact q3) sf.F0 sf.F1 (c.pm.sF s) (c.pm.eF s) hst hx t1 t2 t3 t4 (by omega) (by omega) ?_ ?_ ?_)) ?_
  · intro hh a' w' h hm
    refine hR a' w' _ _ _ _ _ _ h ⟨_, _, hm⟩ ⟨i, hI.clear, .inl ⟨.inl ⟨?_, ?_, ?_, ?_, ?_, ?_, ?_⟩, rfl, ?_, ?_⟩⟩
    · rw [hs]; exact hbk
    · rw [hs]; exact hle'
    · rw [hs]; exact hh
    · rw [hs]
    · rw [hs]
    · rw [hs]
    · rw [hs]
    · rw [hs]
    · rw [hs]; exact hnn
  · intro hh hl a' w' h hm
    refine hR a' w' _ _ _ _ _ _ h ⟨_, _, hm⟩ ⟨i, hI.clear, .inr ⟨⟨fun _ _ => ?_, fun hb _ => ?_⟩, rfl, rfl, rfl, rfl, rfl, ?_, hl⟩⟩
    · rw [hs]; exact hh
    · rw [hs, hbk] at hb; cases hb
    · rw [hn]; show _ = L - (s.cost + _); omega
  · intro hh hl a' w' h hm
    refine ⟨h, ⟨Ms.Pm.clear_succ hI.clear ⟨fun _ _ => ?_, fun hb _ => ?_⟩, ?_, ?_⟩⟩
    · rw [hs]; exact hh
    · rw [hs, hbk] at hb; cases hb
    · rw [hn]
      have e : L - s.cost - (1 + c.pm.eF s - c.pm.sF s) = L - (s.cost + (1 + c.pm.eF s - c.pm.sF s)) := by omega
      rw [e] at hm
      exact hm
    · rw [hn]; right; show 0 ≤ L - (s.cost + _); omega
  rintro a w ⟨hS, hI⟩
  refine r17 hS (by omega) (by omega) (fun a' h => ⟨⟨i + 1, hI, by rw [hn], by rw [hn]; exact hd, by rw [hn]; exact h⟩, ?_⟩)
  have hmu2 : intOf (slot a' 22) = s.k + 2 := by rw [h.s22]; rfl
  rw [hmu2]
  omega

end Go.Proofs.Qxb6601047a
