import Derived.Test.Qxb6601047aMsL5
namespace Go.Proofs.Qxb6601047a
open Go.RowKit
set_option linter.unusedSimpArgs false
set_option linter.unusedVariables false

set_option maxRecDepth 100000 in
set_option maxHeartbeats 1000000 in
theorem h12 {c : Cx} (hc : c.Fits) {odd : Bool} {d : Int} {F G : Int → Int} {L : Int} {w : World} {a : Act} {Q : Exit → Act → World → Prop}
    (hS : Base c odd a) (s19 : slot a 19 = .int .i64 d) (hM : Mem c F G L w) (hd : d ≤ c.n + c.m)
    (hN : ∀ a', Base c odd a' → slot a' 19 = .int .i64 d → Q .normal a' w) : Wp34 [1, 1, 1, 1, 1, 1, 1, 0, 1, 0, 0, 0] Q a w := by
  unfold Wp34
  conv => arg 2; whnf
  have hn := hc.hn
  have hm := hc.hm
  have cn := hM.cn
  have cm := hM.cm
  obtain ⟨ok, s0, s1, s2, s11, s12, s13, s14, s15, s16, s18⟩ := hS
  rw [Fr_of ok]
  generalize slot a = s at *
  unfold Fr
  simp only [s0, s1, s2, s11, s12, s13, s14, s15, s16, s18, s19]
  clear s0 s1 s2 s11 s12 s13 s14 s15 s16 s18 ok s19
  go_wp2
  exact hN _ ⟨⟨rfl, rfl⟩, rfl, rfl, rfl, rfl, rfl, rfl, rfl, rfl, rfl, rfl⟩ rfl

set_option maxRecDepth 100000 in
set_option maxHeartbeats 1000000 in
theorem r14 {c : Cx} (hc : c.Fits) {odd : Bool} {d : Int} {F G : Int → Int} {L : Int} {w : World} {a : Act} {Q : Exit → Act → World → Prop}
    (hS : Base c odd a) (s19 : slot a 19 = .int .i64 d) (hM : Mem c F G L w) (d0 : 0 ≤ d) (hd : d ≤ c.n + c.m)
    (hN : ∀ a', Base c odd a' → slot a' 19 = .int .i64 d → slot a' 20 = .int .i64 (dFirst c.m 0 d) → slot a' 21 = .int .i64 (dLast c.n 0 d) → Q .normal a' w) : Wp34 [1, 1, 1, 1, 1, 1, 1, 0, 1, 0, 0, 1, 0, 0, 0] Q a w := by
  unfold Wp34
  conv => arg 2; whnf
  have hn := hc.hn
  have hm := hc.hm
  have cn := hM.cn
  have cm := hM.cm
  obtain ⟨ok, s0, s1, s2, s11, s12, s13, s14, s15, s16, s18⟩ := hS
  rw [Fr_of ok]
  generalize slot a = s at *
  unfold Fr
  simp only [s0, s1, s2, s11, s12, s13, s14, s15, s16, s18, s19]
  clear s0 s1 s2 s11 s12 s13 s14 s15 s16 s18 ok s19
  go_wp2_with (go_at_call 39; refine (diag_any 0 d c.n c.m c.bm c.bn w (by omega) (by omega) (by omega) (by omega) (by omega) (by omega) (by omega) (by omega) cm cn).mono ?_; rintro e w' ⟨rfl, rfl⟩)
  exact hN _ ⟨⟨rfl, rfl⟩, rfl, rfl, rfl, rfl, rfl, rfl, rfl, rfl, rfl, rfl⟩ rfl rfl rfl

set_option maxRecDepth 100000 in
set_option maxHeartbeats 1000000 in
theorem r15 {c : Cx} {odd : Bool} {d first last : Int} {w : World} {a : Act} {Q : Exit → Act → World → Prop}
    (hS : Base c odd a) (s19 : slot a 19 = .int .i64 d) (s20 : slot a 20 = .int .i64 first) (s21 : slot a 21 = .int .i64 last)
    (hN : ∀ a', S0 c odd d last first a' → Q .normal a' w) : Wp34 [1, 1, 1, 1, 1, 1, 1, 0, 1, 0, 0, 1, 0, 0, 1, 0, 0] Q a w := by
  unfold Wp34
  conv => arg 2; whnf
  obtain ⟨ok, s0, s1, s2, s11, s12, s13, s14, s15, s16, s18⟩ := hS
  rw [Fr_of ok]
  generalize slot a = s at *
  unfold Fr
  simp only [s0, s1, s2, s11, s12, s13, s14, s15, s16, s18, s19, s20, s21]
  clear s0 s1 s2 s11 s12 s13 s14 s15 s16 s18 ok s19 s20 s21
  go_wp2
  exact ⟨⟨⟨rfl, rfl⟩, rfl, rfl, rfl, rfl, rfl, rfl, rfl, rfl, rfl, rfl⟩, rfl, rfl, rfl⟩

set_option maxRecDepth 100000 in
set_option maxHeartbeats 1000000 in
theorem r34 {c : Cx} (hc : c.Fits) {odd : Bool} {d : Int} {F G : Int → Int} {L : Int} {w : World} {a : Act} {Q : Exit → Act → World → Prop}
    (hS : Base c odd a) (s19 : slot a 19 = .int .i64 d) (hM : Mem c F G L w) (d0 : 0 ≤ d) (hd : d ≤ c.n + c.m)
    (hN : ∀ a', Base c odd a' → slot a' 19 = .int .i64 d → slot a' 20 = .int .i64 (dFirst c.m (c.n - c.m) d) → slot a' 21 = .int .i64 (dLast c.n (c.n - c.m) d) → Q .normal a' w) : Wp34 [1, 1, 1, 1, 1, 1, 1, 0, 1, 0, 0, 1, 0, 0, 1, 1, 0] Q a w := by
  unfold Wp34
  conv => arg 2; whnf
  have hn := hc.hn
  have hm := hc.hm
  have cn := hM.cn
  have cm := hM.cm
  obtain ⟨ok, s0, s1, s2, s11, s12, s13, s14, s15, s16, s18⟩ := hS
  rw [Fr_of ok]
  generalize slot a = s at *
  unfold Fr
  simp only [s0, s1, s2, s11, s12, s13, s14, s15, s16, s18, s19]
  clear s0 s1 s2 s11 s12 s13 s14 s15 s16 s18 ok s19
  go_wp2_with (go_at_call 39; refine (diag_any ((c.n : Int) - c.m) d c.n c.m c.bm c.bn w (by omega) (by omega) (by omega) (by omega) (by omega) (by omega) (by omega) (by omega) cm cn).mono ?_; rintro e w' ⟨rfl, rfl⟩)
  exact hN _ ⟨⟨rfl, rfl⟩, rfl, rfl, rfl, rfl, rfl, rfl, rfl, rfl, rfl, rfl⟩ rfl rfl rfl

set_option maxRecDepth 100000 in
set_option maxHeartbeats 1000000 in
theorem r35 {c : Cx} {odd : Bool} {d first last : Int} {w : World} {a : Act} {Q : Exit → Act → World → Prop}
    (hS : Base c odd a) (s19 : slot a 19 = .int .i64 d) (s20 : slot a 20 = .int .i64 first) (s21 : slot a 21 = .int .i64 last)
    (hN : ∀ a', T0 c odd d last first a' → Q .normal a' w) : Wp34 [1, 1, 1, 1, 1, 1, 1, 0, 1, 0, 0, 1, 0, 0, 1, 1, 1, 0] Q a w := by
  unfold Wp34
  conv => arg 2; whnf
  obtain ⟨ok, s0, s1, s2, s11, s12, s13, s14, s15, s16, s18⟩ := hS
  rw [Fr_of ok]
  generalize slot a = s at *
  unfold Fr
  simp only [s0, s1, s2, s11, s12, s13, s14, s15, s16, s18, s19, s20, s21]
  clear s0 s1 s2 s11 s12 s13 s14 s15 s16 s18 ok s19 s20 s21
  go_wp2
  exact ⟨⟨⟨rfl, rfl⟩, rfl, rfl, rfl, rfl, rfl, rfl, rfl, rfl, rfl, rfl⟩, rfl, rfl, rfl⟩

set_option maxRecDepth 100000 in
set_option maxHeartbeats 1000000 in
theorem r13 {c : Cx} {odd : Bool} {d : Int} {w : World} {a : Act} {Q : Exit → Act → World → Prop}
    (hS : Base c odd a) (s19 : slot a 19 = .int .i64 d) (d0 : 0 ≤ d) (hd : d ≤ 100000)
    (hN : ∀ a', Base c odd a' → slot a' 19 = .int .i64 (d + 1) → Q .normal a' w) : Wp34 [1, 1, 1, 1, 1, 1, 1, 0, 1, 0, 0, 1, 1] Q a w := by
  unfold Wp34
  conv => arg 2; whnf
  obtain ⟨ok, s0, s1, s2, s11, s12, s13, s14, s15, s16, s18⟩ := hS
  rw [Fr_of ok]
  generalize slot a = s at *
  unfold Fr
  simp only [s0, s1, s2, s11, s12, s13, s14, s15, s16, s18, s19]
  clear s0 s1 s2 s11 s12 s13 s14 s15 s16 s18 ok s19
  go_wp2
  exact hN _ ⟨⟨rfl, rfl⟩, rfl, rfl, rfl, rfl, rfl, rfl, rfl, rfl, rfl, rfl⟩ rfl

set_option maxHeartbeats 1000000 in
/-- the rounds -/
theorem loop2 {c : Cx} (hc : c.Fits) (hsafe : c.pm.AllSafe) {L : Int} {w : World} {a : Act} {Q : Exit → Act → World → Prop}
    (l1 : -1073741824 ≤ L) (l2 : L ≤ 1073741824)
    (hI : Sit c L 0 w) (hS : Base c c.pm.odd a) (s19 : slot a 19 = .int .i64 0)
    (hR : ∀ a' w' x y u v b L', RetS x y u v b a' → (∃ F G, Mem c F G L' w') → c.pm.Out L x y u v b L' → Q .ret a' w') :
    Wp34 [1, 1, 1, 1, 1, 1, 1, 0, 1, 0] Q a w := by
  refine wp_loop (fun a w => ∃ i, Sit c L i w ∧ (c.pm.stAt i).bk = false ∧ (c.pm.stAt i).k = c.pm.firstF (c.pm.stAt i).d ∧ Base c c.pm.odd a ∧ slot a 19 = .int .i64 (c.pm.stAt i).d) (fun a _ => ((c.n : Int) + c.m + 1 - intOf (slot a 19)).toNat)
    ⟨0, hI, rfl, rfl, hS, s19⟩ ?_
  clear hI hS s19 a w
  rintro a w ⟨i, hI, hbk, hk, hS, s19⟩
  have hmu : intOf (slot a 19) = (c.pm.stAt i).d := by rw [s19]; rfl
  rw [hmu]
  have sf := hsafe i hI.clear
  have d0 := sf.d0
  have d1 : (c.pm.stAt i).d ≤ c.n + c.m := sf.d1
  have hcn := hc.hn
  have hcm := hc.hm
  generalize hd : (c.pm.stAt i).d = d at *
  refine wp_mid (fun a' w' => Base c c.pm.odd a' ∧ slot a' 19 = .int .i64 d ∧ Sit c L i w') (h12 hc hS s19 hI.mem d1 (fun a' h h' => ⟨h, h', hI⟩)) ?_
  rintro a w ⟨hS, s19, hI⟩
  refine wp_mid (fun a' w' => ∃ i', Sit c L i' w' ∧ (c.pm.stAt i').bk = false ∧ (c.pm.stAt i').d = d + 1 ∧ (c.pm.stAt i').k = c.pm.firstF (d + 1) ∧ Base c c.pm.odd a' ∧ slot a' 19 = .int .i64 d) (wp_block ?_) ?_
  · refine wp_mid (fun a' w' => Base c c.pm.odd a' ∧ slot a' 19 = .int .i64 d ∧ slot a' 20 = .int .i64 (c.pm.firstF d) ∧ slot a' 21 = .int .i64 (c.pm.lastF d) ∧ Sit c L i w') (r14 hc hS s19 hI.mem d0 d1 (fun a' h h1 h2 h3 => ⟨h, h1, h2, h3, hI⟩)) ?_
    rintro a w ⟨hS, s19, s20, s21, hI⟩
    refine wp_mid (fun a' w' => ∃ i', Sit c L i' w' ∧ (c.pm.stAt i').bk = true ∧ (c.pm.stAt i').d = d ∧ (c.pm.stAt i').k = c.pm.firstB d ∧ Base c c.pm.odd a' ∧ slot a' 19 = .int .i64 d) ?_ ?_
    · refine wp_mid (fun a' w' => S0 c c.pm.odd d (c.pm.lastF d) (c.pm.firstF d) a' ∧ Sit c L i w') (r15 hS s19 s20 s21 (fun a' h => ⟨h, hI⟩)) ?_
      rintro a w ⟨hS, hI⟩
      exact wp_block (loop3 hc hsafe l1 l2 hI hbk hd (by rw [hk]; exact hS) hR (fun a' w' i' h1 h2 h3 h4 h5 h6 => ⟨i', h1, h2, h3, h4, h5, h6⟩))
    rintro a w ⟨i', hI, hbk', hd', hk', hS, s19⟩
    refine wp_mid (fun a' w' => Base c c.pm.odd a' ∧ slot a' 19 = .int .i64 d ∧ slot a' 20 = .int .i64 (c.pm.firstB d) ∧ slot a' 21 = .int .i64 (c.pm.lastB d) ∧ Sit c L i' w') (r34 hc hS s19 hI.mem d0 d1 (fun a' h h1 h2 h3 => ⟨h, h1, h2, h3, hI⟩)) ?_
    rintro a w ⟨hS, s19, s20, s21, hI⟩
    refine wp_mid (fun a' w' => T0 c c.pm.odd d (c.pm.lastB d) (c.pm.firstB d) a' ∧ Sit c L i' w') (r35 hS s19 s20 s21 (fun a' h => ⟨h, hI⟩)) ?_
    rintro a w ⟨hS, hI⟩
    exact wp_block (loop5 hc hsafe l1 l2 hI hbk' hd' (by rw [hk']; exact hS) hR (fun a' w' i' h1 h2 h3 h4 h5 h6 => ⟨i', h1, h2, h3, h4, h5, h6⟩))
  rintro a w ⟨i', hI, hbk', hd', hk', hS, s19⟩
  refine r13 hS s19 d0 (by omega) (fun a' h h' => ⟨⟨i', hI, hbk', by rw [hd']; exact hk', h, by rw [hd']; exact h'⟩, ?_⟩)
  have hmu2 : intOf (slot a' 19) = d + 1 := by rw [h']; rfl
  rw [hmu2]
  omega

end Go.Proofs.Qxb6601047a
