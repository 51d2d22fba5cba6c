import Derived.Test.Qxb6601047aMsF3
namespace Go.Proofs.Qxb6601047a
open Go.RowKit
set_option linter.unusedSimpArgs false
set_option linter.unusedVariables false

structure RetS (x y u v : Int) (b : Bool) (a : Act) : Prop where
  ok : Ok34 a
  s6 : slot a 6 = .int .i64 x
  s7 : slot a 7 = .int .i64 y
  s8 : slot a 8 = .int .i64 u
  s9 : slot a 9 = .int .i64 v
  s10 : slot a 10 = .bool b

set_option maxRecDepth 100000 in
set_option maxHeartbeats 1000000 in
/-- regions 29, 30: has the way from the start met one from the end? -/
theorem y3 {c : Cx} (hc : c.Fits) {odd : Bool} {d last k st x : Int} {F G : Int → Int} {L : Int} {w : World} {a : Act} {Q : Exit → Act → World → Prop}
    (hS : SF c odd d last k st x a) (hM : Mem c F G L w) (b1 : -c.m ≤ k) (b2 : k ≤ c.n) (x1 : 0 ≤ x) (x2 : x ≤ c.n) (t1 : 0 ≤ st) (t2 : st ≤ c.n)
    (hR : odd = true ∧ 0 ≤ G k ∧ G k ≤ x → ∀ a', RetS st (st - k) x (x - k) true a' → Q .ret a' w)
    (hN : ¬ (odd = true ∧ 0 ≤ G k ∧ G k ≤ x) → ∀ a', SF c odd d last k st x a' → Q .normal a' w) :
    Wp34 [1, 1, 1, 1, 1, 1, 1, 0, 1, 0, 0, 1, 0, 0, 1, 0, 1, 0, 0, 1, 0, 0, 1, 1, 1, 1, 1, 0] Q a w := by
  unfold Wp34
  conv => arg 2; whnf
  have hn := hc.hn
  have hm := hc.hm
  have e1 := hM.cG (k + ((c.m : Int) + 1)) k rfl (by omega) (by omega)
  obtain ⟨⟨ok, s0, s1, s2, s11, s12, s13, s14, s15, s16, s18⟩, s19, s21, s22, s25, s23⟩ := hS
  rw [Fr_of ok]
  generalize slot a = s at *
  unfold Fr
  simp only [s0, s1, s2, s11, s12, s13, s14, s15, s16, s18, s19, s21, s22, s25, s23]
  clear s0 s1 s2 s11 s12 s13 s14 s15 s16 s18 s19 s21 s22 s25 s23 ok
  cases odd with
  | false =>
    go_wp2
    exact hN (by simp) _ ⟨⟨⟨rfl, rfl⟩, rfl, rfl, rfl, rfl, rfl, rfl, rfl, rfl, rfl, rfl⟩, rfl, rfl, rfl, rfl, rfl⟩
  | true =>
    by_cases c2 : 0 ≤ G k
    · by_cases c3 : G k ≤ x
      · go_wp2
        exact hR ⟨by trivial, c2, c3⟩ _ ⟨⟨rfl, rfl⟩, rfl, rfl, rfl, rfl, rfl⟩
      · go_wp2
        exact hN (by omega) _ ⟨⟨⟨rfl, rfl⟩, rfl, rfl, rfl, rfl, rfl, rfl, rfl, rfl, rfl, rfl⟩, rfl, rfl, rfl, rfl, rfl⟩
    · go_wp2
      exact hN (by omega) _ ⟨⟨⟨rfl, rfl⟩, rfl, rfl, rfl, rfl, rfl, rfl, rfl, rfl, rfl, rfl⟩, rfl, rfl, rfl, rfl, rfl⟩

set_option maxRecDepth 100000 in
set_option maxHeartbeats 1000000 in
/-- regions 31, 32, 33: the steps are taken from *left -/
theorem z3 {c : Cx} (hc : c.Fits) {odd : Bool} {d last k st x : Int} {F G : Int → Int} {L : Int} {w : World} {a : Act} {Q : Exit → Act → World → Prop}
    (hS : SF c odd d last k st x a) (hM : Mem c F G L w) (x1 : st ≤ x) (x2 : x ≤ c.n) (t1 : 0 ≤ st) (l1 : -2147483648 ≤ L) (l2 : L ≤ 2147483648)
    (hR : L - (1 + x - st) < 0 → ∀ a' w', RetS 0 0 0 0 false a' → Mem c F G (L - (1 + x - st)) w' → Q .ret a' w')
    (hN : 0 ≤ L - (1 + x - st) → ∀ a' w', S0 c odd d last k a' → Mem c F G (L - (1 + x - st)) w' → Q .normal a' w') :
    Wp34 [1, 1, 1, 1, 1, 1, 1, 0, 1, 0, 0, 1, 0, 0, 1, 0, 1, 0, 0, 1, 0, 0, 1, 1, 1, 1, 1, 1] Q a w := by
  unfold Wp34
  conv => arg 2; whnf
  have hn := hc.hn
  have hm := hc.hm
  have e1 := hM.cl
  have e2 := hM.fl
  have hM' := hM.setL hc (L - (1 + x - st))
  have e3 := hM'.cl
  obtain ⟨⟨ok, s0, s1, s2, s11, s12, s13, s14, s15, s16, s18⟩, s19, s21, s22, s25, s23⟩ := hS
  rw [Fr_of ok]
  generalize slot a = s at *
  unfold Fr
  simp only [s0, s1, s2, s11, s12, s13, s14, s15, s16, s18, s19, s21, s22, s25, s23]
  clear s0 s1 s2 s11 s12 s13 s14 s15 s16 s18 s19 s21 s22 s25 s23 ok
  by_cases c2 : L - (1 + x - st) < 0
  · go_wp2
    exact hR c2 _ _ ⟨⟨rfl, rfl⟩, rfl, rfl, rfl, rfl, rfl⟩ hM'
  · go_wp2
    exact hN (by omega) _ _ ⟨⟨⟨rfl, rfl⟩, rfl, rfl, rfl, rfl, rfl, rfl, rfl, rfl, rfl, rfl⟩, rfl, rfl, rfl⟩ hM'

end Go.Proofs.Qxb6601047a
