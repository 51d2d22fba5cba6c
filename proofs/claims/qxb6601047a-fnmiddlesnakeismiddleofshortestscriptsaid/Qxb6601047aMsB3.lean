import Derived.Test.Qxb6601047aMsYZ3
namespace Go.Proofs.Qxb6601047a
open Go.RowKit
set_option linter.unusedSimpArgs false
set_option linter.unusedVariables false

set_option maxRecDepth 100000 in
set_option maxHeartbeats 1000000 in
theorem r18 {c : Cx} {odd : Bool} {d last k : Int} {w : World} {a : Act} {Q : Exit → Act → World → Prop}
    (hS : S0 c odd d last k a) (hQ : ∀ a', S0 c odd d last k a' → slot a' 23 = .int .i64 0 → Q .normal a' w) : Wp34 [1, 1, 1, 1, 1, 1, 1, 0, 1, 0, 0, 1, 0, 0, 1, 0, 1, 0, 0, 1, 0, 0, 0] Q a w := by
  unfold Wp34
  conv => arg 2; whnf
  obtain ⟨⟨ok, s0, s1, s2, s11, s12, s13, s14, s15, s16, s18⟩, s19, s21, s22⟩ := hS
  rw [Fr_of ok]
  generalize slot a = s at *
  unfold Fr
  simp only [s0, s1, s2, s11, s12, s13, s14, s15, s16, s18, s19, s21, s22]
  clear s0 s1 s2 s11 s12 s13 s14 s15 s16 s18 s19 s21 s22 ok
  go_wp2
  exact hQ _ ⟨⟨⟨rfl, rfl⟩, rfl, rfl, rfl, rfl, rfl, rfl, rfl, rfl, rfl, rfl⟩, rfl, rfl, rfl⟩ rfl

set_option maxRecDepth 100000 in
set_option maxHeartbeats 1000000 in
theorem r25 {c : Cx} {odd : Bool} {d last k x : Int} {w : World} {a : Act} {Q : Exit → Act → World → Prop}
    (hS : S0 c odd d last k a) (h23 : slot a 23 = .int .i64 x) (hQ : ∀ a', SF c odd d last k x x a' → Q .normal a' w) : Wp34 [1, 1, 1, 1, 1, 1, 1, 0, 1, 0, 0, 1, 0, 0, 1, 0, 1, 0, 0, 1, 0, 0, 1, 1, 0] Q a w := by
  unfold Wp34
  conv => arg 2; whnf
  obtain ⟨⟨ok, s0, s1, s2, s11, s12, s13, s14, s15, s16, s18⟩, s19, s21, s22⟩ := hS
  rw [Fr_of ok]
  generalize slot a = s at *
  unfold Fr
  simp only [s0, s1, s2, s11, s12, s13, s14, s15, s16, s18, s19, s21, s22, h23]
  clear s0 s1 s2 s11 s12 s13 s14 s15 s16 s18 s19 s21 s22 ok h23
  go_wp2
  exact ⟨⟨⟨rfl, rfl⟩, rfl, rfl, rfl, rfl, rfl, rfl, rfl, rfl, rfl, rfl⟩, rfl, rfl, rfl, rfl, rfl⟩

set_option maxRecDepth 100000 in
set_option maxHeartbeats 1000000 in
theorem r28 {c : Cx} (hc : c.Fits) {odd : Bool} {d last k st x : Int} {F G : Int → Int} {L : Int} {w : World} {a : Act} {Q : Exit → Act → World → Prop}
    (hS : SF c odd d last k st x a) (hM : Mem c F G L w) (b1 : -c.m ≤ k) (b2 : k ≤ c.n)
    (hQ : ∀ a' w', SF c odd d last k st x a' → Mem c (Ms.updZ F k x) G L w' → Q .normal a' w') : Wp34 [1, 1, 1, 1, 1, 1, 1, 0, 1, 0, 0, 1, 0, 0, 1, 0, 1, 0, 0, 1, 0, 0, 1, 1, 1, 1, 0] Q a w := by
  unfold Wp34
  conv => arg 2; whnf
  have hn := hc.hn
  have hm := hc.hm
  have e1 := hM.cF (k + ((c.m : Int) + 1)) k rfl (by omega) (by omega)
  have e2 := hM.fF (k + ((c.m : Int) + 1)).toNat
  have hM' := hM.setF hc k x (by omega)
  obtain ⟨⟨ok, s0, s1, s2, s11, s12, s13, s14, s15, s16, s18⟩, s19, s21, s22, s25, s23⟩ := hS
  rw [Fr_of ok]
  generalize slot a = s at *
  unfold Fr
  simp only [s0, s1, s2, s11, s12, s13, s14, s15, s16, s18, s19, s21, s22, s25, s23]
  clear s0 s1 s2 s11 s12 s13 s14 s15 s16 s18 s19 s21 s22 s25 s23 ok
  go_wp2
  exact hQ _ _ ⟨⟨⟨rfl, rfl⟩, rfl, rfl, rfl, rfl, rfl, rfl, rfl, rfl, rfl, rfl⟩, rfl, rfl, rfl, rfl, rfl⟩ hM'

set_option maxHeartbeats 1000000 in
/-- one diagonal of the forward phase -/
theorem body3 {c : Cx} (hc : c.Fits) {odd : Bool} {d last k : Int} {F G : Int → Int} {L : Int} {w : World} {a : Act} {Q : Exit → Act → World → Prop}
    (hS : S0 c odd d last k a) (hM : Mem c F G L w) (b1 : -c.m ≤ k) (b2 : k ≤ c.n) (b3 : 0 ≤ d)
    (f1 : ∀ j, -1 ≤ F j) (f2 : ∀ j, F j ≤ c.n) (st x : Int) (hst : st = Ms.startF c.n c.m F d k) (hx : x = Ms.snF c.A c.B c.n c.m k st)
    (t1 : 0 ≤ st) (t2 : st ≤ c.n) (t3 : 0 ≤ st - k) (t4 : st - k ≤ c.m) (l1 : -2147483648 ≤ L) (l2 : L ≤ 2147483648)
    (hR1 : odd = true ∧ 0 ≤ G k ∧ G k ≤ x → ∀ a' w', RetS st (st - k) x (x - k) true a' → Mem c (Ms.updZ F k x) G L w' → Q .ret a' w')
    (hR2 : ¬ (odd = true ∧ 0 ≤ G k ∧ G k ≤ x) → L - (1 + x - st) < 0 → ∀ a' w', RetS 0 0 0 0 false a' → Mem c (Ms.updZ F k x) G (L - (1 + x - st)) w' → Q .ret a' w')
    (hN : ¬ (odd = true ∧ 0 ≤ G k ∧ G k ≤ x) → 0 ≤ L - (1 + x - st) → ∀ a' w', S0 c odd d last k a' → Mem c (Ms.updZ F k x) G (L - (1 + x - st)) w' → Q .normal a' w') :
    Wp34 [1, 1, 1, 1, 1, 1, 1, 0, 1, 0, 0, 1, 0, 0, 1, 0, 1, 0, 0, 1, 0, 0] Q a w := by
  have hb := Ms.snF_bd c.A c.B c.n c.m k st t2 t4
  rw [← hx] at hb
  obtain ⟨x1, x2, x3'⟩ := hb
  refine wp_mid (fun a' w' => S0 c odd d last k a' ∧ slot a' 23 = .int .i64 0 ∧ Mem c F G L w') (r18 hS (fun a' h h' => ⟨h, h', hM⟩)) ?_
  rintro a w ⟨hS, h23, hM⟩
  refine wp_mid (fun a' w' => S0 c odd d last k a' ∧ slot a' 23 = .int .i64 st ∧ Mem c F G L w') (x3 hc hS h23 hM b1 b2 b3 (f1 _) (f2 _) (f1 _) (f2 _) (fun a' h h' => ⟨h, by rw [hst]; exact h', hM⟩)) ?_
  rintro a w ⟨hS, h23, hM⟩
  refine wp_mid (fun a' w' => SF c odd d last k st st a' ∧ Mem c F G L w') (r25 hS h23 (fun a' h => ⟨h, hM⟩)) ?_
  rintro a w ⟨hS, hM⟩
  refine wp_mid (fun a' w' => SF c odd d last k st x a' ∧ Mem c F G L w') (wp_block (loop4 hc hS hM t1 t2 t3 t4 (fun a' w' h hm => ⟨by rw [hx]; exact h, hm⟩))) ?_
  rintro a w ⟨hS, hM⟩
  refine wp_mid (fun a' w' => SF c odd d last k st x a' ∧ Mem c (Ms.updZ F k x) G L w') (r28 hc hS hM b1 b2 (fun a' w' h hm => ⟨h, hm⟩)) ?_
  rintro a w ⟨hS, hM⟩
  refine wp_mid (fun a' w' => ¬ (odd = true ∧ 0 ≤ G k ∧ G k ≤ x) ∧ SF c odd d last k st x a' ∧ Mem c (Ms.updZ F k x) G L w') (y3 hc hS hM b1 b2 (by omega) x2 t1 t2 (fun hh a' h => hR1 hh a' w h hM) (fun hh a' h => ⟨hh, h, hM⟩)) ?_
  rintro a w ⟨hh, hS, hM⟩
  exact z3 hc hS hM x1 x2 t1 l1 l2 (fun hl a' w' h hm => hR2 hh hl a' w' h hm) (fun hl a' w' h hm => hN hh hl a' w' h hm)

end Go.Proofs.Qxb6601047a
