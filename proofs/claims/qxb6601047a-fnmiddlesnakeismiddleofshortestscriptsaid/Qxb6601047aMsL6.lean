import Derived.Test.Qxb6601047aMsL3
namespace Go.Proofs.Qxb6601047a
open Go.RowKit
set_option linter.unusedSimpArgs false
set_option linter.unusedVariables false

/-- The slots in a round of the backward phase. -/
structure SB (c : Cx) (odd : Bool) (d last k en x : Int) (a : Act) : Prop where
  base : Base c odd a
  s19 : slot a 19 = .int .i64 d
  s21 : slot a 21 = .int .i64 last
  s26 : slot a 26 = .int .i64 k
  s30 : slot a 30 = .int .i64 en
  s27 : slot a 27 = .int .i64 x

structure T0 (c : Cx) (odd : Bool) (d last k : Int) (a : Act) : Prop where
  base : Base c odd a
  s19 : slot a 19 = .int .i64 d
  s21 : slot a 21 = .int .i64 last
  s26 : slot a 26 = .int .i64 k

set_option maxRecDepth 100000 in
set_option maxHeartbeats 1000000 in
theorem loop6 {c : Cx} (hc : c.Fits) {odd : Bool} {d last k en x0 : Int} {F G : Int → Int} {L : Int} {w : World} {a : Act} {Q : Exit → Act → World → Prop}
    (hS : SB c odd d last k en x0 a) (hM : Mem c F G L w) (b1 : 0 ≤ x0) (b2 : x0 ≤ c.n) (b3 : 0 ≤ x0 - k) (b4 : x0 - k ≤ c.m)
    (hQ : ∀ a' w', SB c odd d last k en (Ms.snB c.A c.B k x0) a' → Mem c F G L w' → Q (.exit 10) a' w') :
    Wp34 [1, 1, 1, 1, 1, 1, 1, 0, 1, 0, 0, 1, 0, 0, 1, 1, 1, 1, 0, 0, 1, 0, 0, 1, 1, 1, 0, 0] Q a w := by
  unfold Wp34
  conv => arg 2; whnf
  have hn := hc.hn
  have hm := hc.hm
  refine wp_loop (fun a w => ∃ x : Int, 0 ≤ x ∧ x ≤ c.n ∧ 0 ≤ x - k ∧ x - k ≤ c.m ∧ Ms.snB c.A c.B k x = Ms.snB c.A c.B k x0 ∧ SB c odd d last k en x a ∧ Mem c F G L w) (fun a _ => (intOf (slot a 27)).toNat)
    ⟨x0, b1, b2, b3, b4, rfl, hS, hM⟩ ?_
  clear hS hM b1 b2 b3 b4 w a
  rintro a w ⟨x, b1, b2, b3, b4, hx, hS, hM⟩
  have hmu : intOf (slot a 27) = x := by rw [hS.s27]; rfl
  rw [hmu]
  obtain ⟨⟨ok, s0, s1, s2, s11, s12, s13, s14, s15, s16, s18⟩, s19, s21, s26, s30, s27⟩ := hS
  rw [Fr_of ok]
  generalize slot a = s at *
  unfold Fr
  simp only [s0, s1, s2, s11, s12, s13, s14, s15, s16, s18, s19, s21, s26, s30, s27]
  clear s0 s1 s2 s11 s12 s13 s14 s15 s16 s18 s19 s21 s26 s30 s27 ok
  clear hmu
  by_cases c1 : 0 < x
  · by_cases c2 : k < x
    · have c2' : 0 < x - k := by omega
      have ca := hM.cA (x - 1) (by omega) (by omega)
      have cb := hM.cB (x - k - 1) (by omega) (by omega)
      rw [show (x - 1).toNat = x.toNat - 1 from by omega] at ca
      rw [show (x - k - 1).toNat = (x - k).toNat - 1 from by omega] at cb
      by_cases c3 : c.A (x - 1) = c.B (x - k - 1)
      · have e := Ms.snB_step ⟨c1, by omega, c3⟩
        have g3 : (c.A (x - 1) == c.B (x - k - 1)) = true := by simpa using c3
        have HX : Hid (Ms.snB c.A c.B k (x - 1) = Ms.snB c.A c.B k x0) := e.symm.trans hx
        clear c3 e hx
        go_wp2_with fail
        go_quiet (fail)
        go_wp2
        refine ⟨⟨x - 1, by omega, by omega, by omega, by omega, HX.out, ⟨⟨⟨rfl, rfl⟩, rfl, rfl, rfl, rfl, rfl, rfl, rfl, rfl, rfl, rfl⟩, rfl, rfl, rfl, rfl, rfl⟩, hM.drewN _⟩, ?_⟩
        show (intOf (Value.int .i64 (x - 1))).toNat < _
        simp only [intOf]
        omega
      · have e := Ms.snB_stop (A := c.A) (B := c.B) (k := k) (x := x) (by intro h; exact c3 h.2.2)
        have g3 : (c.A (x - 1) == c.B (x - k - 1)) = false := by simpa using c3
        have HX : Hid (x = Ms.snB c.A c.B k x0) := e.symm.trans hx
        clear c3 e hx
        go_wp2_with fail
        go_quiet (fail)
        go_wp2
        refine hQ _ _ ⟨⟨⟨rfl, rfl⟩, rfl, rfl, rfl, rfl, rfl, rfl, rfl, rfl, rfl, rfl⟩, rfl, rfl, rfl, rfl, ?_⟩ (hM.drewN _)
        rw [← HX.out]; rfl
    · have e := Ms.snB_stop (A := c.A) (B := c.B) (k := k) (x := x) (by omega)
      have HX : Hid (x = Ms.snB c.A c.B k x0) := e.symm.trans hx
      have g2 : decide (k < x) = false := by simpa using c2
      clear e hx
      go_wp2_with fail
      go_quiet (fail)
      go_wp2
      refine hQ _ _ ⟨⟨⟨rfl, rfl⟩, rfl, rfl, rfl, rfl, rfl, rfl, rfl, rfl, rfl, rfl⟩, rfl, rfl, rfl, rfl, ?_⟩ (hM.drewN _)
      rw [← HX.out]; rfl
  · have e := Ms.snB_stop (A := c.A) (B := c.B) (k := k) (x := x) (by omega)
    have HX : Hid (x = Ms.snB c.A c.B k x0) := e.symm.trans hx
    have g1 : decide (0 < x) = false := by simpa using c1
    clear e hx
    go_wp2_with fail
    go_quiet (fail)
    go_wp2
    refine hQ _ _ ⟨⟨⟨rfl, rfl⟩, rfl, rfl, rfl, rfl, rfl, rfl, rfl, rfl, rfl, rfl⟩, rfl, rfl, rfl, rfl, ?_⟩ (hM.drewN _)
    rw [← HX.out]; rfl

end Go.Proofs.Qxb6601047a
