import Derived.Test.Qxb6601047aMsF5
namespace Go.Proofs.Qxb6601047a
open Go.RowKit
set_option linter.unusedSimpArgs false
set_option linter.unusedVariables false

set_option maxRecDepth 100000 in
set_option maxHeartbeats 1000000 in
theorem y5 {c : Cx} (hc : c.Fits) {odd : Bool} {d last k en x : Int} {F G : Int → Int} {L : Int} {w : World} {a : Act} {Q : Exit → Act → World → Prop}
    (hS : SB c odd d last k en x a) (hM : Mem c F G L w) (b1 : -c.m ≤ k) (b2 : k ≤ c.n) (x1 : 0 ≤ x) (x2 : x ≤ c.n) (t1 : 0 ≤ en) (t2 : en ≤ c.n)
    (hR : odd = false ∧ 0 ≤ F k ∧ x ≤ F k → ∀ a', RetS x (x - k) en (en - k) true a' → Q .ret a' w)
    (hN : ¬ (odd = false ∧ 0 ≤ F k ∧ x ≤ F k) → ∀ a', SB c odd d last k en x a' → Q .normal a' w) :
    Wp34 [1, 1, 1, 1, 1, 1, 1, 0, 1, 0, 0, 1, 0, 0, 1, 1, 1, 1, 0, 0, 1, 0, 0, 1, 1, 1, 1, 1, 0] Q a w := by
  unfold Wp34
  conv => arg 2; whnf
  have hn := hc.hn
  have hm := hc.hm
  have e1 := hM.cF (k + ((c.m : Int) + 1)) k rfl (by omega) (by omega)
  obtain ⟨⟨ok, s0, s1, s2, s11, s12, s13, s14, s15, s16, s18⟩, s19, s21, s26, s30, s27⟩ := hS
  rw [Fr_of ok]
  generalize slot a = s at *
  unfold Fr
  simp only [s0, s1, s2, s11, s12, s13, s14, s15, s16, s18, s19, s21, s26, s30, s27]
  clear s0 s1 s2 s11 s12 s13 s14 s15 s16 s18 s19 s21 s26 s30 s27 ok
  cases odd with
  | true =>
    go_wp2
    exact hN (by simp) _ ⟨⟨⟨rfl, rfl⟩, rfl, rfl, rfl, rfl, rfl, rfl, rfl, rfl, rfl, rfl⟩, rfl, rfl, rfl, rfl, rfl⟩
  | false =>
    by_cases c2 : 0 ≤ F k
    · by_cases c3 : x ≤ F k
      · go_wp2
        exact hR ⟨by trivial, c2, c3⟩ _ ⟨⟨rfl, rfl⟩, rfl, rfl, rfl, rfl, rfl⟩
      · go_wp2
        exact hN (by omega) _ ⟨⟨⟨rfl, rfl⟩, rfl, rfl, rfl, rfl, rfl, rfl, rfl, rfl, rfl, rfl⟩, rfl, rfl, rfl, rfl, rfl⟩
    · go_wp2
      exact hN (by omega) _ ⟨⟨⟨rfl, rfl⟩, rfl, rfl, rfl, rfl, rfl, rfl, rfl, rfl, rfl, rfl⟩, rfl, rfl, rfl, rfl, rfl⟩

set_option maxRecDepth 100000 in
set_option maxHeartbeats 1000000 in
theorem z5 {c : Cx} (hc : c.Fits) {odd : Bool} {d last k en x : Int} {F G : Int → Int} {L : Int} {w : World} {a : Act} {Q : Exit → Act → World → Prop}
    (hS : SB c odd d last k en x a) (hM : Mem c F G L w) (x1 : x ≤ en) (x2 : en ≤ c.n) (t1 : 0 ≤ x) (l1 : -2147483648 ≤ L) (l2 : L ≤ 2147483648)
    (hR : L - (1 + en - x) < 0 → ∀ a' w', RetS 0 0 0 0 false a' → Mem c F G (L - (1 + en - x)) w' → Q .ret a' w')
    (hN : 0 ≤ L - (1 + en - x) → ∀ a' w', T0 c odd d last k a' → Mem c F G (L - (1 + en - x)) w' → Q .normal a' w') :
    Wp34 [1, 1, 1, 1, 1, 1, 1, 0, 1, 0, 0, 1, 0, 0, 1, 1, 1, 1, 0, 0, 1, 0, 0, 1, 1, 1, 1, 1, 1] Q a w := by
  unfold Wp34
  conv => arg 2; whnf
  have hn := hc.hn
  have hm := hc.hm
  have e1 := hM.cl
  have e2 := hM.fl
  have hM' := hM.setL hc (L - (1 + en - x))
  have e3 := hM'.cl
  obtain ⟨⟨ok, s0, s1, s2, s11, s12, s13, s14, s15, s16, s18⟩, s19, s21, s26, s30, s27⟩ := hS
  rw [Fr_of ok]
  generalize slot a = s at *
  unfold Fr
  simp only [s0, s1, s2, s11, s12, s13, s14, s15, s16, s18, s19, s21, s26, s30, s27]
  clear s0 s1 s2 s11 s12 s13 s14 s15 s16 s18 s19 s21 s26 s30 s27 ok
  by_cases c2 : L - (1 + en - x) < 0
  · go_wp2
    exact hR c2 _ _ ⟨⟨rfl, rfl⟩, rfl, rfl, rfl, rfl, rfl⟩ hM'
  · go_wp2
    exact hN (by omega) _ _ ⟨⟨⟨rfl, rfl⟩, rfl, rfl, rfl, rfl, rfl, rfl, rfl, rfl, rfl, rfl⟩, rfl, rfl, rfl⟩ hM'

set_option maxRecDepth 100000 in
set_option maxHeartbeats 1000000 in
theorem r38 {c : Cx} {odd : Bool} {d last k : Int} {F G : Int → Int} {L : Int} {w : World} {a : Act} {Q : Exit → Act → World → Prop}
    (hS : T0 c odd d last k a) (hM : Mem c F G L w) (hQ : ∀ a', T0 c odd d last k a' → slot a' 27 = .int .i64 c.n → Q .normal a' w) : Wp34 [1, 1, 1, 1, 1, 1, 1, 0, 1, 0, 0, 1, 0, 0, 1, 1, 1, 1, 0, 0, 1, 0, 0, 0] Q a w := by
  unfold Wp34
  conv => arg 2; whnf
  have cn := hM.cn
  obtain ⟨⟨ok, s0, s1, s2, s11, s12, s13, s14, s15, s16, s18⟩, s19, s21, s26⟩ := hS
  rw [Fr_of ok]
  generalize slot a = s at *
  unfold Fr
  simp only [s0, s1, s2, s11, s12, s13, s14, s15, s16, s18, s19, s21, s26]
  clear s0 s1 s2 s11 s12 s13 s14 s15 s16 s18 s19 s21 s26 ok
  go_wp2
  exact hQ _ ⟨⟨⟨rfl, rfl⟩, rfl, rfl, rfl, rfl, rfl, rfl, rfl, rfl, rfl, rfl⟩, rfl, rfl, rfl⟩ rfl

set_option maxRecDepth 100000 in
set_option maxHeartbeats 1000000 in
theorem r48 {c : Cx} {odd : Bool} {d last k x : Int} {w : World} {a : Act} {Q : Exit → Act → World → Prop}
    (hS : T0 c odd d last k a) (h27 : slot a 27 = .int .i64 x) (hQ : ∀ a', SB c odd d last k x x a' → Q .normal a' w) : Wp34 [1, 1, 1, 1, 1, 1, 1, 0, 1, 0, 0, 1, 0, 0, 1, 1, 1, 1, 0, 0, 1, 0, 0, 1, 1, 0] Q a w := by
  unfold Wp34
  conv => arg 2; whnf
  obtain ⟨⟨ok, s0, s1, s2, s11, s12, s13, s14, s15, s16, s18⟩, s19, s21, s26⟩ := hS
  rw [Fr_of ok]
  generalize slot a = s at *
  unfold Fr
  simp only [s0, s1, s2, s11, s12, s13, s14, s15, s16, s18, s19, s21, s26, h27]
  clear s0 s1 s2 s11 s12 s13 s14 s15 s16 s18 s19 s21 s26 ok h27
  go_wp2
  exact ⟨⟨⟨rfl, rfl⟩, rfl, rfl, rfl, rfl, rfl, rfl, rfl, rfl, rfl, rfl⟩, rfl, rfl, rfl, rfl, rfl⟩

set_option maxRecDepth 100000 in
set_option maxHeartbeats 1000000 in
theorem r51 {c : Cx} (hc : c.Fits) {odd : Bool} {d last k en x : Int} {F G : Int → Int} {L : Int} {w : World} {a : Act} {Q : Exit → Act → World → Prop}
    (hS : SB c odd d last k en x a) (hM : Mem c F G L w) (b1 : -c.m ≤ k) (b2 : k ≤ c.n)
    (hQ : ∀ a' w', SB c odd d last k en x a' → Mem c F (Ms.updZ G k x) L w' → Q .normal a' w') : Wp34 [1, 1, 1, 1, 1, 1, 1, 0, 1, 0, 0, 1, 0, 0, 1, 1, 1, 1, 0, 0, 1, 0, 0, 1, 1, 1, 1, 0] Q a w := by
  unfold Wp34
  conv => arg 2; whnf
  have hn := hc.hn
  have hm := hc.hm
  have e1 := hM.cG (k + ((c.m : Int) + 1)) k rfl (by omega) (by omega)
  have e2 := hM.fG (k + ((c.m : Int) + 1)).toNat
  have hM' := hM.setG hc k x (by omega)
  obtain ⟨⟨ok, s0, s1, s2, s11, s12, s13, s14, s15, s16, s18⟩, s19, s21, s26, s30, s27⟩ := hS
  rw [Fr_of ok]
  generalize slot a = s at *
  unfold Fr
  simp only [s0, s1, s2, s11, s12, s13, s14, s15, s16, s18, s19, s21, s26, s30, s27]
  clear s0 s1 s2 s11 s12 s13 s14 s15 s16 s18 s19 s21 s26 s30 s27 ok
  go_wp2
  exact hQ _ _ ⟨⟨⟨rfl, rfl⟩, rfl, rfl, rfl, rfl, rfl, rfl, rfl, rfl, rfl, rfl⟩, rfl, rfl, rfl, rfl, rfl⟩ hM'

set_option maxHeartbeats 1000000 in
/-- one diagonal of the backward phase -/
theorem body5 {c : Cx} (hc : c.Fits) {odd : Bool} {d last k : Int} {F G : Int → Int} {L : Int} {w : World} {a : Act} {Q : Exit → Act → World → Prop}
    (hS : T0 c odd d last k a) (hM : Mem c F G L w) (b1 : -c.m ≤ k) (b2 : k ≤ c.n) (b3 : 0 ≤ d)
    (f1 : ∀ j, -1 ≤ G j) (f2 : ∀ j, G j ≤ c.n) (en x : Int) (hst : en = Ms.startB c.n G d k) (hx : x = Ms.snB c.A c.B k en)
    (t1 : 0 ≤ en) (t2 : en ≤ c.n) (t3 : 0 ≤ en - k) (t4 : en - k ≤ c.m) (l1 : -2147483648 ≤ L) (l2 : L ≤ 2147483648)
    (hR1 : odd = false ∧ 0 ≤ F k ∧ x ≤ F k → ∀ a' w', RetS x (x - k) en (en - k) true a' → Mem c F (Ms.updZ G k x) L w' → Q .ret a' w')
    (hR2 : ¬ (odd = false ∧ 0 ≤ F k ∧ x ≤ F k) → L - (1 + en - x) < 0 → ∀ a' w', RetS 0 0 0 0 false a' → Mem c F (Ms.updZ G k x) (L - (1 + en - x)) w' → Q .ret a' w')
    (hN : ¬ (odd = false ∧ 0 ≤ F k ∧ x ≤ F k) → 0 ≤ L - (1 + en - x) → ∀ a' w', T0 c odd d last k a' → Mem c F (Ms.updZ G k x) (L - (1 + en - x)) w' → Q .normal a' w') :
    Wp34 [1, 1, 1, 1, 1, 1, 1, 0, 1, 0, 0, 1, 0, 0, 1, 1, 1, 1, 0, 0, 1, 0, 0] Q a w := by
  have hb := Ms.snB_bd c.A c.B k en t1 t3
  rw [← hx] at hb
  obtain ⟨x1, x2, x3'⟩ := hb
  refine wp_mid (fun a' w' => T0 c odd d last k a' ∧ slot a' 27 = .int .i64 c.n ∧ Mem c F G L w') (r38 hS hM (fun a' h h' => ⟨h, h', hM⟩)) ?_
  rintro a w ⟨hS, h27, hM⟩
  refine wp_mid (fun a' w' => T0 c odd d last k a' ∧ slot a' 27 = .int .i64 en ∧ Mem c F G L w') (x5 hc hS h27 hM b1 b2 b3 (f1 _) (f2 _) (f1 _) (f2 _) (fun a' h h' => ⟨h, by rw [hst]; exact h', hM⟩)) ?_
  rintro a w ⟨hS, h27, hM⟩
  refine wp_mid (fun a' w' => SB c odd d last k en en a' ∧ Mem c F G L w') (r48 hS h27 (fun a' h => ⟨h, hM⟩)) ?_
  rintro a w ⟨hS, hM⟩
  refine wp_mid (fun a' w' => SB c odd d last k en x a' ∧ Mem c F G L w') (wp_block (loop6 hc hS hM t1 t2 t3 t4 (fun a' w' h hm => ⟨by rw [hx]; exact h, hm⟩))) ?_
  rintro a w ⟨hS, hM⟩
  refine wp_mid (fun a' w' => SB c odd d last k en x a' ∧ Mem c F (Ms.updZ G k x) L w') (r51 hc hS hM b1 b2 (fun a' w' h hm => ⟨h, hm⟩)) ?_
  rintro a w ⟨hS, hM⟩
  refine wp_mid (fun a' w' => ¬ (odd = false ∧ 0 ≤ F k ∧ x ≤ F k) ∧ SB c odd d last k en x a' ∧ Mem c F (Ms.updZ G k x) L w') (y5 hc hS hM b1 b2 (by omega) (by omega) t1 t2 (fun hh a' h => hR1 hh a' w h hM) (fun hh a' h => ⟨hh, h, hM⟩)) ?_
  rintro a w ⟨hh, hS, hM⟩
  exact z5 hc hS hM x1 t2 x2 l1 l2 (fun hl a' w' h hm => hR2 hh hl a' w' h hm) (fun hl a' w' h hm => hN hh hl a' w' h hm)

set_option maxRecDepth 100000 in
set_option maxHeartbeats 1000000 in
theorem h36 {c : Cx} {odd : Bool} {d last k : Int} {w : World} {a : Act} {Q : Exit → Act → World → Prop}
    (hS : T0 c odd d last k a) (hE : last < k → ∀ a', T0 c odd d last k a' → Q (.exit 8) a' w) (hN : k ≤ last → ∀ a', T0 c odd d last k a' → Q .normal a' w) : Wp34 [1, 1, 1, 1, 1, 1, 1, 0, 1, 0, 0, 1, 0, 0, 1, 1, 1, 1, 0, 0, 0] Q a w := by
  unfold Wp34
  conv => arg 2; whnf
  obtain ⟨⟨ok, s0, s1, s2, s11, s12, s13, s14, s15, s16, s18⟩, s19, s21, s26⟩ := hS
  rw [Fr_of ok]
  generalize slot a = s at *
  unfold Fr
  simp only [s0, s1, s2, s11, s12, s13, s14, s15, s16, s18, s19, s21, s26]
  clear s0 s1 s2 s11 s12 s13 s14 s15 s16 s18 s19 s21 s26 ok
  by_cases c1 : k ≤ last
  · go_wp2
    exact hN c1 _ ⟨⟨⟨rfl, rfl⟩, rfl, rfl, rfl, rfl, rfl, rfl, rfl, rfl, rfl, rfl⟩, rfl, rfl, rfl⟩
  · go_wp2
    exact hE (by omega) _ ⟨⟨⟨rfl, rfl⟩, rfl, rfl, rfl, rfl, rfl, rfl, rfl, rfl, rfl, rfl⟩, rfl, rfl, rfl⟩

set_option maxRecDepth 100000 in
set_option maxHeartbeats 1000000 in
theorem r37 {c : Cx} {odd : Bool} {d last k : Int} {w : World} {a : Act} {Q : Exit → Act → World → Prop}
    (hS : T0 c odd d last k a) (k1 : -100000 ≤ k) (k2 : k ≤ 100000) (hN : ∀ a', T0 c odd d last (k + 2) a' → Q .normal a' w) : Wp34 [1, 1, 1, 1, 1, 1, 1, 0, 1, 0, 0, 1, 0, 0, 1, 1, 1, 1, 0, 0, 1, 1] Q a w := by
  unfold Wp34
  conv => arg 2; whnf
  obtain ⟨⟨ok, s0, s1, s2, s11, s12, s13, s14, s15, s16, s18⟩, s19, s21, s26⟩ := hS
  rw [Fr_of ok]
  generalize slot a = s at *
  unfold Fr
  simp only [s0, s1, s2, s11, s12, s13, s14, s15, s16, s18, s19, s21, s26]
  clear s0 s1 s2 s11 s12 s13 s14 s15 s16 s18 s19 s21 s26 ok
  go_wp2
  exact ⟨⟨⟨rfl, rfl⟩, rfl, rfl, rfl, rfl, rfl, rfl, rfl, rfl, rfl, rfl⟩, rfl, rfl, rfl⟩

set_option maxHeartbeats 1000000 in
/-- the backward phase of one round -/
theorem loop5 {c : Cx} (hc : c.Fits) (hsafe : c.pm.AllSafe) {L d : Int} {i : Nat} {w : World} {a : Act} {Q : Exit → Act → World → Prop}
    (l1 : -1073741824 ≤ L) (l2 : L ≤ 1073741824)
    (hI : Sit c L i w) (hbk : (c.pm.stAt i).bk = true) (hd : (c.pm.stAt i).d = d) (hS : T0 c c.pm.odd d (c.pm.lastB d) (c.pm.stAt i).k a)
    (hR : ∀ a' w' x y u v b L', RetS x y u v b a' → (∃ F G, Mem c F G L' w') → c.pm.Out L x y u v b L' → Q .ret a' w')
    (hE : ∀ a' w' i', Sit c L i' w' → (c.pm.stAt i').bk = false → (c.pm.stAt i').d = d + 1 → (c.pm.stAt i').k = c.pm.firstF (d + 1) → Base c c.pm.odd a' → slot a' 19 = .int .i64 d → Q (.exit 8) a' w') :
    Wp34 [1, 1, 1, 1, 1, 1, 1, 0, 1, 0, 0, 1, 0, 0, 1, 1, 1, 1, 0] Q a w := by
  refine wp_loop (fun a w => ∃ i, Sit c L i w ∧ (c.pm.stAt i).bk = true ∧ (c.pm.stAt i).d = d ∧ T0 c c.pm.odd d (c.pm.lastB d) (c.pm.stAt i).k a) (fun a _ => (c.pm.lastB d + 2 - intOf (slot a 26)).toNat)
    ⟨i, hI, hbk, hd, hS⟩ ?_
  clear hI hbk hd hS i a w
  rintro a w ⟨i, hI, hbk, hd, hS⟩
  have hmu : intOf (slot a 26) = (c.pm.stAt i).k := by rw [hS.s26]; rfl
  rw [hmu]
  have sf := hsafe i hI.clear
  generalize hs : c.pm.stAt i = s at *
  refine wp_mid (fun a' w' => s.k ≤ c.pm.lastB d ∧ T0 c c.pm.odd d (c.pm.lastB d) s.k a' ∧ Sit c L i w') (h36 hS (fun hlt a' h => ?_) (fun hle a' h => ⟨hle, h, hI⟩)) ?_
  · have hn : c.pm.stAt (i + 1) = ⟨s.d + 1, false, c.pm.firstF (s.d + 1), s.F, s.G, s.cost⟩ := by
      show c.pm.nxt (c.pm.stAt i) = _
      rw [hs]
      exact Ms.nxt_b2 hbk (by rw [hd]; omega)
    refine hE a' w (i + 1) ⟨Ms.Pm.clear_succ hI.clear ⟨fun hb _ => ?_, fun _ hk => ?_⟩, ?_, ?_⟩ (by rw [hn]) (by rw [hn, ← hd]) (by rw [hn, ← hd]) h.base h.s19
    · rw [hs, hbk] at hb; cases hb
    · rw [hs, hd] at hk; omega
    · rw [hn]; have := hI.mem; rw [hs] at this; exact this
    · rw [hn]; have := hI.nn; rw [hs] at this; exact this
  rintro a w ⟨hle, hS, hI⟩
  have hle' : s.k ≤ c.pm.lastB s.d := by rw [hd]; exact hle
  obtain ⟨k1, k2, t1, t2, t3, t4⟩ := sf.b hbk hle'
  have hM := hI.mem
  have hnn := hI.nn
  rw [hs] at hM hnn
  have hcn := hc.hn
  have hcm := hc.hm
  have q1 := sf.c0
  have q2 := sf.c1
  have q3 := sf.d0
  have en : c.pm.n = c.n := rfl
  have em : c.pm.m = c.m := rfl
  have hst : c.pm.sB s = Ms.startB c.n s.G d s.k := by unfold Ms.Pm.sB; rw [hd]; rfl
  have hx : c.pm.eB s = Ms.snB c.A c.B s.k (c.pm.sB s) := rfl
  have hn : c.pm.stAt (i + 1) = ⟨s.d, true, s.k + 2, s.F, Ms.updZ s.G s.k (c.pm.eB s), s.cost + (1 + c.pm.sB s - c.pm.eB s)⟩ := by
    show c.pm.nxt (c.pm.stAt i) = _
    rw [hs]
    exact Ms.nxt_b1 hbk hle'
  have hb := Ms.snB_bd c.A c.B s.k (c.pm.sB s) t1 t3
  rw [← hx] at hb
  refine wp_mid (fun a' w' => T0 c c.pm.odd d (c.pm.lastB d) s.k a' ∧ Sit c L (i + 1) w') (wp_block (body5 hc hS hM k1 k2 (by rw [← hd]; exact q3) sf.G0 sf.G1 (c.pm.sB s) (c.pm.eB s) hst hx t1 t2 t3 t4 (by omega) (by omega) ?_ ?_ ?_)) ?_
  · intro hh a' w' h hm
    refine hR a' w' _ _ _ _ _ _ h ⟨_, _, hm⟩ ⟨i, hI.clear, .inl ⟨.inr ⟨?_, ?_, ?_, ?_, ?_, ?_, ?_⟩, rfl, ?_, ?_⟩⟩
    · rw [hs]; exact hbk
    · rw [hs]; exact hle'
    · rw [hs]; exact hh
    · rw [hs]
    · rw [hs]
    · rw [hs]
    · rw [hs]
    · rw [hs]
    · rw [hs]; exact hnn
  · intro hh hl a' w' h hm
    refine hR a' w' _ _ _ _ _ _ h ⟨_, _, hm⟩ ⟨i, hI.clear, .inr ⟨⟨fun hb _ => ?_, fun _ _ => ?_⟩, rfl, rfl, rfl, rfl, rfl, ?_, hl⟩⟩
    · rw [hs, hbk] at hb; cases hb
    · rw [hs]; exact hh
    · rw [hn]; show _ = L - (s.cost + _); omega
  · intro hh hl a' w' h hm
    refine ⟨h, ⟨Ms.Pm.clear_succ hI.clear ⟨fun hb _ => ?_, fun _ _ => ?_⟩, ?_, ?_⟩⟩
    · rw [hs, hbk] at hb; cases hb
    · rw [hs]; exact hh
    · rw [hn]
      have e : L - s.cost - (1 + c.pm.sB s - c.pm.eB s) = L - (s.cost + (1 + c.pm.sB s - c.pm.eB s)) := by omega
      rw [e] at hm
      exact hm
    · rw [hn]; right; show 0 ≤ L - (s.cost + _); omega
  rintro a w ⟨hS, hI⟩
  refine r37 hS (by omega) (by omega) (fun a' h => ⟨⟨i + 1, hI, by rw [hn], by rw [hn]; exact hd, by rw [hn]; exact h⟩, ?_⟩)
  have hmu2 : intOf (slot a' 26) = s.k + 2 := by rw [h.s26]; rfl
  rw [hmu2]
  omega

end Go.Proofs.Qxb6601047a
