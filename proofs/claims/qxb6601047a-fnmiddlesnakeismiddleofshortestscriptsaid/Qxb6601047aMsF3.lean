import Derived.Test.Qxb6601047aMsL4
namespace Go.Proofs.Qxb6601047a
open Go.RowKit
set_option linter.unusedSimpArgs false
set_option linter.unusedVariables false

theorem wp_mid {P : Program} {Q : Exit → Act → World → Prop} {a : Act} {w : World} {x y : Code} (R : Act → World → Prop)
    (h : x.wp P (Exit.then R Q) a w) (h2 : ∀ a w, R a w → y.wp P Q a w) : (Code.seq x y).wp P Q a w :=
  wp_seq (wp_mono h (fun e a w hq => by cases e <;> first | exact h2 _ _ hq | exact hq))

structure S0 (c : Cx) (odd : Bool) (d last k : Int) (a : Act) : Prop where
  base : Base c odd a
  s19 : slot a 19 = .int .i64 d
  s21 : slot a 21 = .int .i64 last
  s22 : slot a 22 = .int .i64 k

set_option maxRecDepth 100000 in
set_option maxHeartbeats 1000000 in
theorem x3 {c : Cx} (hc : c.Fits) {odd : Bool} {d last k : Int} {F G : Int → Int} {L : Int} {w : World} {a : Act} {Q : Exit → Act → World → Prop}
    (hS : S0 c odd d last k a) (h23 : slot a 23 = .int .i64 0) (hM : Mem c F G L w) (b1 : -c.m ≤ k) (b2 : k ≤ c.n) (b3 : 0 ≤ d)
    (f1 : -1 ≤ F (k - 1)) (f2 : F (k - 1) ≤ c.n) (f3 : -1 ≤ F (k + 1)) (f4 : F (k + 1) ≤ c.n)
    (hQ : ∀ a', S0 c odd d last k a' → slot a' 23 = .int .i64 (Ms.startF c.n c.m F d k) → Q .normal a' w) :
    Wp34 [1, 1, 1, 1, 1, 1, 1, 0, 1, 0, 0, 1, 0, 0, 1, 0, 1, 0, 0, 1, 0, 0, 1, 0] Q a w := by
  unfold Wp34
  conv => arg 2; whnf
  have hn := hc.hn
  have hm := hc.hm
  have cn := hM.cn
  have cm := hM.cm
  have e1 := hM.cF (k + 1 + ((c.m : Int) + 1)) (k + 1) rfl (by omega) (by omega)
  have e2 := hM.cF (k - 1 + ((c.m : Int) + 1)) (k - 1) rfl (by omega) (by omega)
  obtain ⟨⟨ok, s0, s1, s2, s11, s12, s13, s14, s15, s16, s18⟩, s19, s21, s22⟩ := hS
  rw [Fr_of ok]
  generalize slot a = s at *
  unfold Fr
  simp only [s0, s1, s2, s11, s12, s13, s14, s15, s16, s18, s19, s21, s22, h23]
  clear s0 s1 s2 s11 s12 s13 s14 s15 s16 s18 s19 s21 s22 h23 ok
  by_cases c1 : 0 < d
  · by_cases c2 : 0 ≤ F (k - 1)
    · by_cases c3 : F (k + 1) < F (k - 1) + 1
      · go_wp2
        all_goals
          refine hQ _ ⟨⟨⟨rfl, rfl⟩, rfl, rfl, rfl, rfl, rfl, rfl, rfl, rfl, rfl, rfl⟩, rfl, rfl, rfl⟩ (congrArg (Value.int .i64) ?_)
          unfold Ms.startF Ms.stepF
          rw [if_pos c1, if_pos ⟨c2, c3⟩]
          omega
      · go_wp2
        all_goals
          refine hQ _ ⟨⟨⟨rfl, rfl⟩, rfl, rfl, rfl, rfl, rfl, rfl, rfl, rfl, rfl, rfl⟩, rfl, rfl, rfl⟩ (congrArg (Value.int .i64) ?_)
          unfold Ms.startF Ms.stepF
          rw [if_pos c1, if_neg (by omega)]
          omega
    · go_wp2
      all_goals
        refine hQ _ ⟨⟨⟨rfl, rfl⟩, rfl, rfl, rfl, rfl, rfl, rfl, rfl, rfl, rfl, rfl⟩, rfl, rfl, rfl⟩ (congrArg (Value.int .i64) ?_)
        unfold Ms.startF Ms.stepF
        rw [if_pos c1, if_neg (by omega)]
        omega
  · go_wp2
    refine hQ _ ⟨⟨⟨rfl, rfl⟩, rfl, rfl, rfl, rfl, rfl, rfl, rfl, rfl, rfl, rfl⟩, rfl, rfl, rfl⟩ (congrArg (Value.int .i64) ?_)
    unfold Ms.startF
    rw [if_neg (by omega)]

end Go.Proofs.Qxb6601047a
