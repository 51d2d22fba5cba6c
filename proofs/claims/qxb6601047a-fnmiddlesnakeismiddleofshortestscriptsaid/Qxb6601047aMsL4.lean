import Derived.Test.Qxb6601047aMsMem
import Derived.Deep.QuietTactic
import Derived.BigQuiet
namespace Go.Proofs.Qxb6601047a
open Go.RowKit
set_option linter.unusedSimpArgs false
set_option linter.unusedVariables false

/-- The slots in a round of the forward phase. -/
structure SF (c : Cx) (odd : Bool) (d last k st x : Int) (a : Act) : Prop where
  base : Base c odd a
  s19 : slot a 19 = .int .i64 d
  s21 : slot a 21 = .int .i64 last
  s22 : slot a 22 = .int .i64 k
  s25 : slot a 25 = .int .i64 st
  s23 : slot a 23 = .int .i64 x

set_option maxRecDepth 100000 in
set_option maxHeartbeats 1000000 in
theorem loop4 {c : Cx} (hc : c.Fits) {odd : Bool} {d last k st x0 : Int} {F G : Int → Int} {L : Int} {w : World} {a : Act} {Q : Exit → Act → World → Prop}
    (hS : SF c odd d last k st x0 a) (hM : Mem c F G L w) (b1 : 0 ≤ x0) (b2 : x0 ≤ c.n) (b3 : 0 ≤ x0 - k) (b4 : x0 - k ≤ c.m)
    (hQ : ∀ a' w', SF c odd d last k st (Ms.snF c.A c.B c.n c.m k x0) a' → Mem c F G L w' → Q (.exit 6) a' w') :
    Wp34 [1, 1, 1, 1, 1, 1, 1, 0, 1, 0, 0, 1, 0, 0, 1, 0, 1, 0, 0, 1, 0, 0, 1, 1, 1, 0, 0] Q a w := by
  unfold Wp34
  conv => arg 2; whnf
  have hn := hc.hn
  have hm := hc.hm
  refine wp_loop (fun a w => ∃ x : Int, 0 ≤ x ∧ x ≤ c.n ∧ 0 ≤ x - k ∧ x - k ≤ c.m ∧ Ms.snF c.A c.B c.n c.m k x = Ms.snF c.A c.B c.n c.m k x0 ∧ SF c odd d last k st x a ∧ Mem c F G L w) (fun a _ => (c.n - intOf (slot a 23)).toNat)
    ⟨x0, b1, b2, b3, b4, rfl, hS, hM⟩ ?_
  clear hS hM b1 b2 b3 b4 w a
  rintro a w ⟨x, b1, b2, b3, b4, hx, hS, hM⟩
  have hmu : intOf (slot a 23) = x := by rw [hS.s23]; rfl
  rw [hmu]
  have cn := hM.cn
  have cm := hM.cm
  obtain ⟨⟨ok, s0, s1, s2, s11, s12, s13, s14, s15, s16, s18⟩, s19, s21, s22, s25, s23⟩ := hS
  rw [Fr_of ok]
  generalize slot a = s at *
  unfold Fr
  simp only [s0, s1, s2, s11, s12, s13, s14, s15, s16, s18, s19, s21, s22, s25, s23]
  clear s0 s1 s2 s11 s12 s13 s14 s15 s16 s18 s19 s21 s22 s25 s23 ok hmu
  by_cases c1 : x < c.n
  · by_cases c2 : x - k < c.m
    · have ca := hM.cA x b1 c1
      have cb := hM.cB (x - k) b3 c2
      by_cases c3 : c.A x = c.B (x - k)
      · have e := Ms.snF_step ⟨c1, c2, c3⟩
        have g3 : (c.A x == c.B (x - k)) = true := by simpa using c3
        have HX : Hid (Ms.snF c.A c.B c.n c.m k (x + 1) = Ms.snF c.A c.B c.n c.m k x0) := e.symm.trans hx
        clear c3 e hx
        go_wp2_with fail
        go_quiet (fail)
        go_wp2
        refine ⟨⟨x + 1, by omega, by omega, by omega, by omega, HX.out, ⟨⟨⟨rfl, rfl⟩, rfl, rfl, rfl, rfl, rfl, rfl, rfl, rfl, rfl, rfl⟩, rfl, rfl, rfl, rfl, rfl⟩, hM.drewN _⟩, ?_⟩
        show (c.n - intOf (Value.int .i64 (x + 1))).toNat < _
        simp only [intOf]
        omega
      · have e := Ms.snF_stop (A := c.A) (B := c.B) (n := c.n) (m := c.m) (k := k) (x := x) (by intro h; exact c3 h.2.2)
        have g3 : (c.A x == c.B (x - k)) = false := by simpa using c3
        have HX : Hid (x = Ms.snF c.A c.B c.n c.m k x0) := e.symm.trans hx
        clear c3 e hx
        go_wp2_with fail
        go_quiet (fail)
        go_wp2
        refine hQ _ _ ⟨⟨⟨rfl, rfl⟩, rfl, rfl, rfl, rfl, rfl, rfl, rfl, rfl, rfl, rfl⟩, rfl, rfl, rfl, rfl, ?_⟩ (hM.drewN _)
        rw [← HX.out]; rfl
    · have e := Ms.snF_stop (A := c.A) (B := c.B) (n := c.n) (m := c.m) (k := k) (x := x) (by omega)
      have HX : Hid (x = Ms.snF c.A c.B c.n c.m k x0) := e.symm.trans hx
      have g2 : decide (x - k < (c.m : Int)) = false := by simpa using c2
      clear e hx
      go_wp2_with fail
      go_quiet (fail)
      go_wp2
      refine hQ _ _ ⟨⟨⟨rfl, rfl⟩, rfl, rfl, rfl, rfl, rfl, rfl, rfl, rfl, rfl, rfl⟩, rfl, rfl, rfl, rfl, ?_⟩ (hM.drewN _)
      rw [← HX.out]; rfl
  · have e := Ms.snF_stop (A := c.A) (B := c.B) (n := c.n) (m := c.m) (k := k) (x := x) (by omega)
    have HX : Hid (x = Ms.snF c.A c.B c.n c.m k x0) := e.symm.trans hx
    have g1 : decide (x < (c.n : Int)) = false := by simpa using c1
    clear e hx
    go_wp2_with fail
    go_quiet (fail)
    go_wp2
    refine hQ _ _ ⟨⟨⟨rfl, rfl⟩, rfl, rfl, rfl, rfl, rfl, rfl, rfl, rfl, rfl, rfl⟩, rfl, rfl, rfl, rfl, ?_⟩ (hM.drewN _)
    rw [← HX.out]; rfl

end Go.Proofs.Qxb6601047a
