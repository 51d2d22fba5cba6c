import Derived.Test.Qxb6601047aMsL6
namespace Go.Proofs.Qxb6601047a
open Go.RowKit
set_option linter.unusedSimpArgs false
set_option linter.unusedVariables false

set_option maxRecDepth 100000 in
set_option maxHeartbeats 1000000 in
theorem x5 {c : Cx} (hc : c.Fits) {odd : Bool} {d last k : Int} {F G : Int → Int} {L : Int} {w : World} {a : Act} {Q : Exit → Act → World → Prop}
    (hS : T0 c odd d last k a) (h27 : slot a 27 = .int .i64 c.n) (hM : Mem c F G L w) (b1 : -c.m ≤ k) (b2 : k ≤ c.n) (b3 : 0 ≤ d)
    (f1 : -1 ≤ G (k - 1)) (f2 : G (k - 1) ≤ c.n) (f3 : -1 ≤ G (k + 1)) (f4 : G (k + 1) ≤ c.n)
    (hQ : ∀ a', T0 c odd d last k a' → slot a' 27 = .int .i64 (Ms.startB c.n G d k) → Q .normal a' w) :
    Wp34 [1, 1, 1, 1, 1, 1, 1, 0, 1, 0, 0, 1, 0, 0, 1, 1, 1, 1, 0, 0, 1, 0, 0, 1, 0] Q a w := by
  unfold Wp34
  conv => arg 2; whnf
  have hn := hc.hn
  have hm := hc.hm
  have cn := hM.cn
  have cm := hM.cm
  have e1 := hM.cG (k + 1 + ((c.m : Int) + 1)) (k + 1) rfl (by omega) (by omega)
  have e2 := hM.cG (k - 1 + ((c.m : Int) + 1)) (k - 1) rfl (by omega) (by omega)
  obtain ⟨⟨ok, s0, s1, s2, s11, s12, s13, s14, s15, s16, s18⟩, s19, s21, s26⟩ := hS
  rw [Fr_of ok]
  generalize slot a = s at *
  unfold Fr
  simp only [s0, s1, s2, s11, s12, s13, s14, s15, s16, s18, s19, s21, s26, h27]
  clear s0 s1 s2 s11 s12 s13 s14 s15 s16 s18 s19 s21 s26 ok h27
  have z1 : 0 ≤ G (k - 1) → Ms.stepB1 c.n G k = G (k - 1) := fun h => if_pos h
  have z2 : ¬ 0 ≤ G (k - 1) → Ms.stepB1 c.n G k = c.n + 1 := fun h => if_neg h
  have hv : 0 < d → Ms.startB c.n G d k = max (max (Ms.stepB c.n G k) 0) k := fun h => if_pos h
  have hw : ¬ 0 < d → Ms.startB c.n G d k = c.n := fun h => if_neg h
  by_cases c1 : 0 < d
  · replace hv := hv c1
    clear hw
    by_cases c2 : 0 ≤ G (k - 1)
    · replace z1 := z1 c2
      clear z2
      by_cases c3 : 0 ≤ G (k + 1) ∧ G (k + 1) - 1 < G (k - 1)
      · have z3 : Ms.stepB c.n G k = G (k + 1) - 1 := by unfold Ms.stepB; rw [z1, if_pos c3]
        obtain ⟨c3, c4⟩ := c3
        clear z1
        go_wp2
        all_goals
          refine hQ _ ⟨⟨⟨rfl, rfl⟩, rfl, rfl, rfl, rfl, rfl, rfl, rfl, rfl, rfl, rfl⟩, rfl, rfl, rfl⟩ (congrArg (Value.int .i64) ?_)
          rw [hv, z3]
          omega
      · have z3 : Ms.stepB c.n G k = G (k - 1) := by unfold Ms.stepB; rw [z1, if_neg c3]
        clear z1
        by_cases c5 : 0 ≤ G (k + 1)
        all_goals
          go_wp2
          all_goals
            refine hQ _ ⟨⟨⟨rfl, rfl⟩, rfl, rfl, rfl, rfl, rfl, rfl, rfl, rfl, rfl, rfl⟩, rfl, rfl, rfl⟩ (congrArg (Value.int .i64) ?_)
            rw [hv, z3]
            omega
    · replace z2 := z2 c2
      clear z1
      by_cases c3 : 0 ≤ G (k + 1)
      · have c4 : G (k + 1) - 1 < (c.n : Int) + 1 := by omega
        have z3 : Ms.stepB c.n G k = G (k + 1) - 1 := by unfold Ms.stepB; rw [z2, if_pos ⟨c3, c4⟩]
        clear z2
        go_wp2
        all_goals
          refine hQ _ ⟨⟨⟨rfl, rfl⟩, rfl, rfl, rfl, rfl, rfl, rfl, rfl, rfl, rfl, rfl⟩, rfl, rfl, rfl⟩ (congrArg (Value.int .i64) ?_)
          rw [hv, z3]
          omega
      · have z3 : Ms.stepB c.n G k = c.n + 1 := by unfold Ms.stepB; rw [z2, if_neg (by omega)]
        clear z2
        go_wp2
        all_goals
          refine hQ _ ⟨⟨⟨rfl, rfl⟩, rfl, rfl, rfl, rfl, rfl, rfl, rfl, rfl, rfl, rfl⟩, rfl, rfl, rfl⟩ (congrArg (Value.int .i64) ?_)
          rw [hv, z3]
          omega
  · replace hw := hw c1
    clear hv z1 z2
    go_wp2
    refine hQ _ ⟨⟨⟨rfl, rfl⟩, rfl, rfl, rfl, rfl, rfl, rfl, rfl, rfl, rfl, rfl⟩, rfl, rfl, rfl⟩ (congrArg (Value.int .i64) ?_)
    rw [hw]

end Go.Proofs.Qxb6601047a
