import Derived.Test.Qxb6601047aMsL2
namespace Go.Proofs.Qxb6601047a
open Go.RowKit
set_option linter.unusedSimpArgs false
set_option linter.unusedVariables false

structure Base0 (c : Cx) (odd : Bool) (a : Act) : Prop where
  ok : Ok34 a
  s0 : slot a 0 = .slice (some ⟨c.ba, 0, none⟩) c.n c.n
  s1 : slot a 1 = .slice (some ⟨c.bb, 0, none⟩) c.m c.m
  s2 : slot a 2 = .pointer (some ⟨c.pl, 0, none⟩)
  s11 : slot a 11 = .pointer (some ⟨c.bn, 0, none⟩)
  s12 : slot a 12 = .pointer (some ⟨c.bm, 0, none⟩)
  s13 : slot a 13 = .bool odd
  s14 : slot a 14 = .int .i64 ((c.m : Int) + 1)
  s15 : slot a 15 = .slice (some ⟨c.bF, 0, none⟩) (c.n + c.m + 3) (c.n + c.m + 3)
  s16 : slot a 16 = .slice (some ⟨c.bG, 0, none⟩) (c.n + c.m + 3) (c.n + c.m + 3)

def fillF (m : Nat) (i : Nat) : Int → Int := fun k => if k + ((m : Int) + 1) < i then -1 else 0
theorem fillF_upd (m i : Nat) : Ms.updZ (fillF m i) ((i : Int) - ((m : Int) + 1)) (-1) = fillF m (i + 1) := by
  funext k
  simp only [Ms.updZ, fillF]
  by_cases h : k = (i : Int) - ((m : Int) + 1)
  · rw [if_pos h, if_pos (by omega)]
  · rw [if_neg h]
    by_cases h2 : k + ((m : Int) + 1) < i
    · rw [if_pos h2, if_pos (by omega)]
    · rw [if_neg h2, if_neg (by omega)]

theorem Mem.fillF1 {c : Cx} (hc : c.Fits) {G : Int → Int} {L : Int} {w : World} {i : Nat} (h : Mem c (fillF c.m i) G L w) : Mem c (fillF c.m (i + 1)) G L (w.setCell ⟨c.bF, i, none⟩ (.int .i64 (-1))) := by
  have := h.setF hc ((i : Int) - ((c.m : Int) + 1)) (-1) (by omega)
  rw [fillF_upd, show ((i : Int) - ((c.m : Int) + 1) + ((c.m : Int) + 1)).toNat = i from by omega] at this
  exact this
theorem Mem.fillG1 {c : Cx} (hc : c.Fits) {F : Int → Int} {L : Int} {w : World} {i : Nat} (h : Mem c F (fillF c.m i) L w) : Mem c F (fillF c.m (i + 1)) L (w.setCell ⟨c.bG, i, none⟩ (.int .i64 (-1))) := by
  have := h.setG hc ((i : Int) - ((c.m : Int) + 1)) (-1) (by omega)
  rw [fillF_upd, show ((i : Int) - ((c.m : Int) + 1) + ((c.m : Int) + 1)).toNat = i from by omega] at this
  exact this
theorem Mem.filled {c : Cx} {L : Int} {w : World} (h : Mem c (fillF c.m (c.n + c.m + 3)) (fillF c.m (c.n + c.m + 3)) L w) : Mem c (fun _ => -1) (fun _ => -1) L w := by
  have e : ∀ i, i < c.n + c.m + 3 → diagV c.m (fillF c.m (c.n + c.m + 3)) i = diagV c.m (fun _ => -1) i := by
    intro i hi
    simp only [diagV, fillF]
    rw [if_pos (by omega)]
  exact ⟨h.ra, h.rb, h.rl, h.rn, h.rm, h.rF.congr e, h.rG.congr e, h.bel⟩

set_option maxRecDepth 100000 in
set_option maxHeartbeats 1000000 in
theorem loop1 {c : Cx} (hc : c.Fits) {odd : Bool} {L : Int} {w : World} {a : Act} {Q : Exit → Act → World → Prop}
    (hS : Base0 c odd a) (s53 : slot a 53 = .int .i64 ((c.n : Int) + c.m + 3)) (s54 : slot a 54 = .int .i64 0) (hM : Mem c (fillF c.m 0) (fillF c.m 0) L w)
    (hQ : ∀ a' w', Base0 c odd a' → Mem c (fun _ => -1) (fun _ => -1) L w' → Q (.exit 0) a' w') : Wp34 [1, 1, 1, 1, 1, 0, 1, 0] Q a w := by
  unfold Wp34
  conv => arg 2; whnf
  have hn := hc.hn
  have hm := hc.hm
  refine wp_loop (fun a w => ∃ i : Nat, i ≤ c.n + c.m + 3 ∧ Base0 c odd a ∧ slot a 53 = .int .i64 ((c.n : Int) + c.m + 3) ∧ slot a 54 = .int .i64 i ∧ Mem c (fillF c.m i) (fillF c.m i) L w) (fun a _ => ((c.n : Int) + c.m + 3 - intOf (slot a 54)).toNat)
    ⟨0, Nat.zero_le _, hS, s53, s54, hM⟩ ?_
  clear hS hM s53 s54 w a
  rintro a w ⟨i, hi, hS, s53, s54, hM⟩
  have hmu : intOf (slot a 54) = i := by rw [s54]; rfl
  rw [hmu]
  obtain ⟨ok, s0, s1, s2, s11, s12, s13, s14, s15, s16⟩ := hS
  rw [Fr_of ok]
  generalize slot a = s at *
  unfold Fr
  simp only [s0, s1, s2, s11, s12, s13, s14, s15, s16, s53, s54]
  clear s0 s1 s2 s11 s12 s13 s14 s15 s16 ok s53 s54
  clear hmu
  by_cases c1 : i < c.n + c.m + 3
  · have g1 := hM.rF.cell i c1
    have g2 := hM.rF.free i
    have g3 := hM.rG.cell i c1
    have g4 := hM.rG.free i
    have hM1 := hM.fillF1 hc
    have g5 := hM1.rG.cell i c1
    have g6 := hM1.rG.free i
    have hM2 := hM1.fillG1 hc
    clear hM hM1
    unfold diagV at g1 g3 g5
    go_wp2
    refine ⟨⟨i + 1, by omega, ⟨⟨rfl, rfl⟩, rfl, rfl, rfl, rfl, rfl, rfl, rfl, rfl, rfl⟩, rfl, rfl, hM2⟩, ?_⟩
    show ((c.n : Int) + c.m + 3 - intOf (Value.int .i64 ((i : Int) + 1))).toNat < _
    simp only [intOf]
    omega
  · obtain rfl : i = c.n + c.m + 3 := by omega
    go_wp2
    exact hQ _ _ ⟨⟨rfl, rfl⟩, rfl, rfl, rfl, rfl, rfl, rfl, rfl, rfl, rfl⟩ hM.filled

set_option maxRecDepth 100000 in
set_option maxHeartbeats 1000000 in
theorem r5 {c : Cx} (hc : c.Fits) {odd : Bool} {w : World} {a : Act} {Q : Exit → Act → World → Prop}
    (hS : Base0 c odd a) (hQ : ∀ a', Base0 c odd a' → slot a' 53 = .int .i64 ((c.n : Int) + c.m + 3) → slot a' 54 = .int .i64 0 → Q .normal a' w) : Wp34 [1, 1, 1, 1, 1, 0, 0] Q a w := by
  unfold Wp34
  conv => arg 2; whnf
  have hn := hc.hn
  have hm := hc.hm
  obtain ⟨ok, s0, s1, s2, s11, s12, s13, s14, s15, s16⟩ := hS
  rw [Fr_of ok]
  generalize slot a = s at *
  unfold Fr
  simp only [s0, s1, s2, s11, s12, s13, s14, s15, s16]
  clear s0 s1 s2 s11 s12 s13 s14 s15 s16 ok
  go_wp2
  exact hQ _ ⟨⟨rfl, rfl⟩, rfl, rfl, rfl, rfl, rfl, rfl, rfl, rfl, rfl⟩ rfl rfl

set_option maxRecDepth 100000 in
set_option maxHeartbeats 1000000 in
theorem r10 {c : Cx} {odd : Bool} {w : World} {a : Act} {Q : Exit → Act → World → Prop}
    (hS : Base0 c odd a) (hQ : ∀ a', Base c odd a' → Q .normal a' w) : Wp34 [1, 1, 1, 1, 1, 1, 0] Q a w := by
  unfold Wp34
  conv => arg 2; whnf
  obtain ⟨ok, s0, s1, s2, s11, s12, s13, s14, s15, s16⟩ := hS
  rw [Fr_of ok]
  generalize slot a = s at *
  unfold Fr
  simp only [s0, s1, s2, s11, s12, s13, s14, s15, s16]
  clear s0 s1 s2 s11 s12 s13 s14 s15 s16 ok
  go_wp2
  exact ⟨⟨rfl, rfl⟩, rfl, rfl, rfl, rfl, rfl, rfl, rfl, rfl, rfl, rfl⟩

set_option maxRecDepth 100000 in
set_option maxHeartbeats 1000000 in
theorem r11 {c : Cx} {odd : Bool} {w : World} {a : Act} {Q : Exit → Act → World → Prop}
    (hS' : Base c odd a) (hQ : ∀ a', Base c odd a' → slot a' 19 = .int .i64 0 → Q .normal a' w) : Wp34 [1, 1, 1, 1, 1, 1, 1, 0, 0] Q a w := by
  unfold Wp34
  conv => arg 2; whnf
  obtain ⟨ok, s0, s1, s2, s11, s12, s13, s14, s15, s16, s18⟩ := hS'
  rw [Fr_of ok]
  generalize slot a = s at *
  unfold Fr
  simp only [s0, s1, s2, s11, s12, s13, s14, s15, s16, s18]
  clear s0 s1 s2 s11 s12 s13 s14 s15 s16 s18 ok
  go_wp2
  exact hQ _ ⟨⟨rfl, rfl⟩, rfl, rfl, rfl, rfl, rfl, rfl, rfl, rfl, rfl, rfl⟩ rfl

/-- all behind the two makes -/
theorem tail34 {c : Cx} (hc : c.Fits) (hsafe : c.pm.AllSafe) {L : Int} {w : World} {a : Act} {Q : Exit → Act → World → Prop}
    (l1 : -1073741824 ≤ L) (l2 : L ≤ 1073741824) (hS : Base0 c c.pm.odd a) (hM : Mem c (fillF c.m 0) (fillF c.m 0) L w)
    (hR : ∀ a' w' x y u v b L', RetS x y u v b a' → (∃ F G, Mem c F G L' w') → c.pm.Out L x y u v b L' → Q .ret a' w') : Wp34 [1, 1, 1, 1, 1] Q a w := by
  refine wp_mid (fun a' w' => Base0 c c.pm.odd a' ∧ Mem c (fun _ => -1) (fun _ => -1) L w') ?_ ?_
  · refine wp_mid (fun a' w' => Base0 c c.pm.odd a' ∧ slot a' 53 = .int .i64 ((c.n : Int) + c.m + 3) ∧ slot a' 54 = .int .i64 0 ∧ Mem c (fillF c.m 0) (fillF c.m 0) L w') (r5 hc hS (fun a' h h1 h2 => ⟨h, h1, h2, hM⟩)) ?_
    rintro a w ⟨hS, s53, s54, hM⟩
    exact wp_block (loop1 hc hS s53 s54 hM (fun a' w' h h' => ⟨h, h'⟩))
  rintro a w ⟨hS, hM⟩
  refine wp_mid (fun a' w' => Base c c.pm.odd a' ∧ Mem c (fun _ => -1) (fun _ => -1) L w') (r10 hS (fun a' h => ⟨h, hM⟩)) ?_
  rintro a w ⟨hS, hM⟩
  refine wp_mid (fun a' w' => False) ?_ (fun _ _ h => h.elim)
  refine wp_mid (fun a' w' => Base c c.pm.odd a' ∧ slot a' 19 = .int .i64 0 ∧ Mem c (fun _ => -1) (fun _ => -1) L w') (r11 hS (fun a' h h' => ⟨h, h', hM⟩)) ?_
  rintro a w ⟨hS, s19, hM⟩
  refine wp_block (loop2 hc hsafe l1 l2 ⟨fun j hj => absurd hj (Nat.not_lt_zero _), ?_, .inl rfl⟩ hS s19 hR)
  rw [show L - (c.pm.stAt 0).cost = L from by show L - 0 = L; omega]
  exact hM

end Go.Proofs.Qxb6601047a
