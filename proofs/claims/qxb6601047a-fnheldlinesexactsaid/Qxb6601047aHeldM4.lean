/-
  The walk of heldModel (function 21): its fourth loop, and the whole.
-/
import Derived.Test.Qxb6601047aHeldM3
namespace Go.Proofs.Qxb6601047a
open Go.RowKit Go.Maps
set_option linter.unusedSimpArgs false
set_option linter.unusedVariables false

structure SM4 (c : Mx) (v4 v6 : Value) (a : Act) : Prop where
  ok : Ok107 a
  s0 : slot a 0 = .slice c.ad c.n c.ca
  s1 : slot a 1 = .slice c.bd c.m c.cb
  s4 : slot a 4 = v4
  s6 : slot a 6 = v6
  s10 : slot a 10 = .slice (some ⟨c.bR, 0, none⟩) c.n c.n

structure MemM4 (c : Mx) (base base4 k : Nat) (v4 v5 v6 v7 : Value) (w : World) : Prop where
  mem : MemM c c.n w
  pair : Pair w base4 v5 (Held.hB c.A c.B c.n k) v7 (Held.ys c.A c.B c.n k)
  o4 : OwnS w base v4 (Held.hA c.A c.B c.n c.m c.n)
  o6 : OwnS w base v6 (Held.xs c.A c.B c.m c.n)
  l4 : ∀ j, v4.ownBlock = some j → j < base4
  l6 : ∀ j, v6.ownBlock = some j → j < base4
  siz : base4 ≤ w.heap.size

set_option maxRecDepth 100000 in
set_option maxHeartbeats 2000000 in
theorem loopM4 {c : Mx} (hc : c.Fits) {base base4 : Nat} (hbR : c.bR < base) (hbb : base ≤ base4) {w : World} {a : Act} {v4 v6 : Value} {Q : Exit → Act → World → Prop}
    (hS : SM4 c v4 v6 a) (s5 : slot a 5 = .slice none 0 0) (s7 : slot a 7 = .slice none 0 0) (s15 : slot a 15 = .int .i64 0) (hM : MemM4 c base base4 0 v4 (.slice none 0 0) v6 (.slice none 0 0) w)
    (hQ : ∀ a' w' v5 v7, SM4 c v4 v6 a' → slot a' 5 = v5 → slot a' 7 = v7 → MemM4 c base base4 c.m v4 v5 v6 v7 w' → Q (.exit 6) a' w') : Wp21 [1, 1, 1, 1, 1, 1, 1, 0, 1, 0] Q a w := by
  unfold Wp21
  conv => arg 2; whnf
  have hn := hc.hn
  have hm := hc.hm
  refine wp_loop (fun a w => ∃ (k : Nat) (v5 v7 : Value), k ≤ c.m ∧ SM4 c v4 v6 a ∧ slot a 5 = v5 ∧ slot a 7 = v7 ∧ slot a 15 = .int .i64 k ∧ MemM4 c base base4 k v4 v5 v6 v7 w) (fun a _ => ((c.m : Int) - intOf (slot a 15)).toNat)
    ⟨0, _, _, Nat.zero_le _, hS, s5, s7, s15, hM⟩ ?_
  clear hS s5 s7 s15 hM w a
  rintro a w ⟨k, v5, v7, hk, hS, s5, s7, s15, hM⟩
  have hmu : intOf (slot a 15) = k := by rw [s15]; rfl
  rw [hmu]
  clear hmu
  obtain ⟨i0, hi, hz0, hz1, hz2⟩ := info_parts info3H
  obtain ⟨ok, s0, s1, s4, s6, s10⟩ := hS
  rw [Fr107_of ok]
  generalize slot a = s at *
  unfold Fr107
  simp only [s0, s1, s4, s6, s10, s5, s7, s15]
  clear s0 s1 s4 s6 s10 s5 s7 s15 ok
  by_cases hlt : k < c.m
  · obtain ⟨had, hbl⟩ := hc.lb.at_ (by omega)
    rw [had]
    have g1 : w.cell? ⟨c.bb, c.ob + k, none⟩ = some (.string (c.B k)) := (hM.mem.bel.cell (by exact hbl)).trans (hc.lb.cell k hlt)
    have hlA : Lines w c.ad c.ba c.oa c.n c.A := hc.la.below hM.mem.bel (Nat.le_refl _)
    cases hj : Held.idx c.A (c.B k) c.n with
    | some f =>
      have hin : Held.isIn c.A c.n (c.B k) = true := by unfold Held.isIn; rw [hj]; rfl
      obtain ⟨hf3, _, _⟩ := Held.idx_some hj
      have g3 : w.cell? ⟨c.bR, f, none⟩ = some (.int .i64 (if f < c.n then (Held.dc c.A f : Int) else 0)) := hM.mem.rank.cell f hf3
      rw [if_pos hf3, ← Held.num_of hj] at g3
      have hnl : Held.num c.A c.n (c.B k) ≤ c.n := by rw [Held.num_of hj]; have := Held.dc_le c.A f; omega
      have e1 : Held.hB c.A c.B c.n (k + 1) = Held.hB c.A c.B c.n k ++ [(Held.num c.A c.n (c.B k) : Int)] := Held.acc_yes hin
      have e2 : Held.ys c.A c.B c.n (k + 1) = Held.ys c.A c.B c.n k ++ [(k : Int)] := Held.acc_yes hin
      have l1 : (Held.hB c.A c.B c.n k).length ≤ k := Held.acc_len _ _ _
      have l2 : (Held.ys c.A c.B c.n k).length ≤ k := Held.acc_len _ _ _
      have hz := hM.siz
      have hm1 := hc.m1
      have hm0 := hc.m0
      have hp := hM.pair
      have hfin : Hid (∀ (o1 o2 : Obj) (w1 w2 : World) (v5' v7' : Value), (w.alloc o1).grownBy w1 v5.ownBlock →
          w1.ownsRow base4 3 1 v5' ((Held.hB c.A c.B c.n k).length + 1) ((Held.hB c.A c.B c.n k).map (Value.int .i64) ++ [.int .i64 (Held.num c.A c.n (c.B k))]) → (v5'.ownBlock = v5.ownBlock ∨ v5'.ownBlock = some (w.alloc o1).heap.size) →
          (w1.alloc o2).grownBy w2 v7.ownBlock → w2.ownsRow base4 3 1 v7' ((Held.ys c.A c.B c.n k).length + 1) ((Held.ys c.A c.B c.n k).map (Value.int .i64) ++ [.int .i64 k]) → (v7'.ownBlock = v7.ownBlock ∨ v7'.ownBlock = some (w1.alloc o2).heap.size) →
          MemM4 c base base4 (k + 1) v4 v5' v6 v7' w2) := by
        intro o1 o2 w1 w2 v5' v7' a1 a2 a3 b1 b2 b3
        have hpair := hp.pushed rfl a1 a2 a3 rfl b1 b2 b3
        have q5 : ∀ j, v5.ownBlock = some j → base4 ≤ j := fun j e => (hp.o1.lt j e).1
        have q7 : ∀ j, v7.ownBlock = some j → base4 ≤ j := fun j e => (hp.o2.lt j e).1
        have n5 : ∀ j, j < base4 → some j ≠ v5.ownBlock := fun j hj e => by have := q5 j e.symm; omega
        have n7 : ∀ j, j < base4 → some j ≠ v7.ownBlock := fun j hj e => by have := q7 j e.symm; omega
        have r5 : ∀ v : Value, (∀ j, v.ownBlock = some j → j < base4) → v.ownBlock = none ∨ v.ownBlock ≠ v5.ownBlock := by
          intro v hv
          cases hb : v.ownBlock with
          | none => exact .inl rfl
          | some j => exact .inr (n5 j (hv j hb))
        have r7 : ∀ v : Value, (∀ j, v.ownBlock = some j → j < base4) → v.ownBlock = none ∨ v.ownBlock ≠ v7.ownBlock := by
          intro v hv
          cases hb : v.ownBlock with
          | none => exact .inl rfl
          | some j => exact .inr (n7 j (hv j hb))
        have gs1 := a1.size
        have gs2 := b1.size
        have t1 : ∀ (W : World) (o : Obj), (W.alloc o).heap.size = W.heap.size + 1 := fun W o => by simp
        rw [t1] at gs1 gs2
        refine ⟨⟨?_, ?_, ?_⟩, ?_, ?_, ?_, hM.l4, hM.l6, by omega⟩
        · exact (((hM.mem.first.alloc o1).grown a1 (n5 _ (by omega))).alloc o2).grown b1 (n7 _ (by omega))
        · exact (((hM.mem.rank.alloc o1).grown a1 (n5 _ (by omega))).alloc o2).grown b1 (n7 _ (by omega))
        · exact Below.grown (Below.alloc (Below.grown (Below.alloc hM.mem.bel (by omega) o1) a1 (by rw [t1]; omega) (fun j e => by have := q5 j e; omega)) (by omega) o2) b1 (by rw [t1]; omega) (fun j e => by have := q7 j e; omega)
        · rw [e1, e2]; exact hpair
        · exact World.ownsRow.kept (World.ownsRow.alloc (World.ownsRow.kept (World.ownsRow.alloc hM.o4 o1) a1 (r5 v4 hM.l4)) o2) b1 (r7 v4 hM.l4)
        · exact World.ownsRow.kept (World.ownsRow.alloc (World.ownsRow.kept (World.ownsRow.alloc hM.o6 o1) a1 (r5 v6 hM.l6)) o2) b1 (r7 v6 hM.l6)
      have p1 : w.ownsRow base4 3 1 v5 (Held.hB c.A c.B c.n k).length ((Held.hB c.A c.B c.n k).map (Value.int .i64)) := hp.o1
      have p2 : w.ownsRow base4 3 1 v7 (Held.ys c.A c.B c.n k).length ((Held.ys c.A c.B c.n k).map (Value.int .i64)) := hp.o2
      have ap := hp.ap'
      have HA : Hid (Lines w c.ad c.ba c.oa c.n c.A) := hlA
      have HJ : Hid (Held.find c.A (c.B k) c.n = f) := Held.find_some hj
      clear hM hp hin e1 e2 hlA hj
      generalize Held.hB c.A c.B c.n k = L1 at *
      generalize Held.ys c.A c.B c.n k = L2 at *
      generalize Held.num c.A c.n (c.B k) = z at *
      go_wp2_with fail
      refine (indexIn_any c.ad c.ba c.oa c.n c.ca c.A (c.B k) w hn HA.out).mono ?_
      rintro e w' ⟨rfl, rfl⟩
      rw [HJ.out]
      go_wp2_with (first
        | (at_builtin; refine wpList_append_own_at _ rfl (.tmp 92) (.tmp 97) 30 rfl base4 3 i0 (.int .i64 0) 1 8 Try.underlying30 hi hz0 hz1 hz2 rfl (by decide) v5 L1.length _ rfl (p1.alloc _) ⟨w.heap.size, 0, none⟩ 1 1 [.int .i64 z] rfl rfl (cell_one_at _ _ (by simp) _ _) (ints_oneCell .i64 [(z : Int)]) (by unfold maxLen; omega) (by omega) (by simp; omega) ?_; intro v5' w1 hown1 hgrow1 hnil1 hloc1; have p2' := (p2.alloc _).kept hgrow1 ap; have hs1 := hgrow1.size)
        | (at_builtin; refine wpList_append_own_at _ rfl (.tmp 99) (.tmp 101) 30 rfl base4 3 i0 (.int .i64 0) 1 8 Try.underlying30 hi hz0 hz1 hz2 rfl (by decide) v7 L2.length _ rfl (p2'.alloc _) ⟨w1.heap.size, 0, none⟩ 1 1 [.int .i64 k] rfl rfl (cell_one_at _ _ (by simp) _ _) (ints_oneCell .i64 [(k : Int)]) (by unfold maxLen; omega) (by omega) (by simp; simp at hs1; omega) ?_; intro v7' w2 hown2 hgrow2 hnil2 hloc2))
      refine ⟨⟨k + 1, v5', v7', by omega, ⟨⟨rfl, rfl⟩, rfl, (congrArg (fun z => Value.slice z c.m c.cb) had).symm, rfl, rfl, rfl⟩, rfl, rfl, rfl, hfin.out _ _ _ _ _ _ hgrow1 hown1 hloc1 hgrow2 hown2 hloc2⟩, ?_⟩
      · show ((c.m : Int) - intOf (Value.int .i64 ((k : Int) + 1))).toNat < _
        simp only [intOf]
        omega
    | none =>
      have hin : Held.isIn c.A c.n (c.B k) = false := by unfold Held.isIn; rw [hj]; rfl
      have e1 : Held.hB c.A c.B c.n (k + 1) = Held.hB c.A c.B c.n k := Held.acc_no hin
      have e2 : Held.ys c.A c.B c.n (k + 1) = Held.ys c.A c.B c.n k := Held.acc_no hin
      have hM' : MemM4 c base base4 (k + 1) v4 v5 v6 v7 w := ⟨hM.mem, by rw [e1, e2]; exact hM.pair, hM.o4, hM.o6, hM.l4, hM.l6, hM.siz⟩
      have HA : Hid (Lines w c.ad c.ba c.oa c.n c.A) := hlA
      have HJ : Hid (Held.find c.A (c.B k) c.n = -1) := Held.find_none hj
      clear e1 e2 hM hin hi hz0 hz1 hz2 hlA hj
      go_wp2_with fail
      refine (indexIn_any c.ad c.ba c.oa c.n c.ca c.A (c.B k) w hn HA.out).mono ?_
      rintro e w' ⟨rfl, rfl⟩
      rw [HJ.out]
      go_wp2
      refine ⟨⟨k + 1, v5, v7, by omega, ⟨⟨rfl, rfl⟩, rfl, (congrArg (fun z => Value.slice z c.m c.cb) had).symm, rfl, rfl, rfl⟩, rfl, rfl, rfl, hM'⟩, ?_⟩
      · show ((c.m : Int) - intOf (Value.int .i64 ((k : Int) + 1))).toNat < _
        simp only [intOf]
        omega
  · obtain rfl : k = c.m := by omega
    clear hi hz0 hz1 hz2
    go_wp2
    exact hQ _ _ _ _ ⟨⟨rfl, rfl⟩, rfl, rfl, rfl, rfl, rfl⟩ rfl rfl hM

set_option maxRecDepth 100000 in
set_option maxHeartbeats 1000000 in
theorem rM15 {c : Mx} {w : World} {a : Act} {Q : Exit → Act → World → Prop} (hS : SM c a)
    (hQ : ∀ a', SM3 c a' → slot a' 4 = .slice none 0 0 → slot a' 6 = .slice none 0 0 → slot a' 14 = .int .i64 0 → Q .normal a' w) : Wp21 [1, 1, 1, 1, 1, 1, 0, 0] Q a w := by
  unfold Wp21
  conv => arg 2; whnf
  obtain ⟨ok, s0, s1, s4, s5, s6, s7, s8, s9, s10⟩ := hS
  rw [Fr107_of ok]
  generalize slot a = s at *
  unfold Fr107
  simp only [s0, s1, s4, s5, s6, s7, s8, s9, s10]
  clear s0 s1 s4 s5 s6 s7 s8 s9 s10 ok
  go_wp2
  exact hQ _ ⟨⟨rfl, rfl⟩, rfl, rfl, rfl, rfl, rfl, rfl, rfl⟩ rfl rfl rfl

set_option maxRecDepth 100000 in
set_option maxHeartbeats 1000000 in
theorem rM21 {c : Mx} {w : World} {a : Act} {v4 v6 : Value} {Q : Exit → Act → World → Prop} (hS : SM3 c a) (s4 : slot a 4 = v4) (s6 : slot a 6 = v6)
    (hQ : ∀ a', SM4 c v4 v6 a' → slot a' 5 = .slice none 0 0 → slot a' 7 = .slice none 0 0 → slot a' 15 = .int .i64 0 → Q .normal a' w) : Wp21 [1, 1, 1, 1, 1, 1, 1, 0, 0] Q a w := by
  unfold Wp21
  conv => arg 2; whnf
  obtain ⟨ok, s0, s1, s5, s7, s8, s9, s10⟩ := hS
  rw [Fr107_of ok]
  generalize slot a = s at *
  unfold Fr107
  simp only [s0, s1, s5, s7, s8, s9, s10, s4, s6]
  clear s0 s1 s5 s7 s8 s9 s10 s4 s6 ok
  go_wp2
  exact hQ _ ⟨⟨rfl, rfl⟩, rfl, rfl, rfl, rfl, rfl⟩ rfl rfl rfl

set_option maxRecDepth 100000 in
set_option maxHeartbeats 1000000 in
theorem retM {a : Act} {w : World} {v4 v5 v6 v7 : Value} {R : Ending → World → Prop} (ok : Ok107 a) (s4 : slot a 4 = v4) (s5 : slot a 5 = v5) (s6 : slot a 6 = v6) (s7 : slot a 7 = v7)
    (hR : R (.returned (.tuple #[v4, v5, v6, v7])) w) : Wp21 [1, 1, 1, 1, 1, 1, 1, 1] (bodyPost Try.prog Try.f21 R) a w := by
  unfold Wp21
  conv => arg 2; whnf
  rw [Fr107_of ok]
  generalize slot a = s at *
  unfold Fr107
  simp only [s4, s5, s6, s7]
  clear s4 s5 s6 s7 ok
  go_wp2
  refine bodyPost_ret (results4 rfl _ _ _) rfl ?_
  exact hR

theorem OwnS.lower {W : World} {b b' : Nat} {v : Value} {l : List Int} (h : OwnS W b v l) (hb : b' ≤ b) : OwnS W b' v l := by
  obtain ⟨h1, h2⟩ := h
  refine ⟨h1, ?_⟩
  rcases h2 with h2 | ⟨g, cap, cur, e1, e2, r⟩
  · exact .inl h2
  · exact .inr ⟨g, cap, cur, e1, Nat.le_trans hb e2, r⟩

/-- all behind the first loop -/
theorem rest21 {c : Mx} (hc : c.Fits) {w : World} {a : Act} (hS : SM c a) (hM : MemM c c.n w) :
    Wp21 [1, 1, 1, 1, 1, 1] (bodyPost Try.prog Try.f21 fun e w' => ∃ v4 v5 v6 v7, e = .returned (.tuple #[v4, v5, v6, v7]) ∧ Gives w' c.w0.heap.size c.A c.B c.n c.m v4 v5 v6 v7 ∧ Below c.w0.heap.size c.w0 w') a w := by
  have hRlt := hM.rank.lt
  have hm1 := hc.m1
  have hm0 := hc.m0
  refine wp_mid (fun a' w' => ∃ v4 v6, SM3 c a' ∧ slot a' 4 = v4 ∧ slot a' 6 = v6 ∧ MemM3 c w.heap.size c.n v4 v6 w') ?_ ?_
  · refine wp_mid (fun a' w' => SM3 c a' ∧ slot a' 4 = .slice none 0 0 ∧ slot a' 6 = .slice none 0 0 ∧ slot a' 14 = .int .i64 0 ∧ MemM3 c w.heap.size 0 (.slice none 0 0) (.slice none 0 0) w')
      (rM15 hS (fun a' h h4 h6 h14 => ⟨h, h4, h6, h14, ⟨hM, Pair.start _ _, Nat.le_refl _⟩⟩)) ?_
    rintro a1 w1 ⟨hS, s4, s6, s14, hM3⟩
    exact wp_block (loopM3 hc hRlt hS s4 s6 s14 hM3 (fun a' w' v4 v6 h1 h2 h3 h4 => ⟨v4, v6, h1, h2, h3, h4⟩))
  rintro a1 w1 ⟨v4, v6, hS, s4, s6, hM3⟩
  have hM4 : MemM4 c w.heap.size w1.heap.size 0 v4 (.slice none 0 0) v6 (.slice none 0 0) w1 :=
    ⟨hM3.mem, Pair.start _ _, hM3.pair.o1, hM3.pair.o2, fun j e => (hM3.pair.o1.lt j e).2, fun j e => (hM3.pair.o2.lt j e).2, Nat.le_refl _⟩
  have hbb : w.heap.size ≤ w1.heap.size := hM3.siz
  refine wp_mid (fun a' w' => ∃ v5 v7, SM4 c v4 v6 a' ∧ slot a' 5 = v5 ∧ slot a' 7 = v7 ∧ MemM4 c w.heap.size w1.heap.size c.m v4 v5 v6 v7 w') ?_ ?_
  · refine wp_mid (fun a' w' => SM4 c v4 v6 a' ∧ slot a' 5 = .slice none 0 0 ∧ slot a' 7 = .slice none 0 0 ∧ slot a' 15 = .int .i64 0 ∧ MemM4 c w.heap.size w1.heap.size 0 v4 (.slice none 0 0) v6 (.slice none 0 0) w')
      (rM21 hS s4 s6 (fun a' h h5 h7 h15 => ⟨h, h5, h7, h15, hM4⟩)) ?_
    rintro a2 w2 ⟨hS, s5, s7, s15, hM4⟩
    exact wp_block (loopM4 hc hRlt hbb hS s5 s7 s15 hM4 (fun a' w' v5 v7 h1 h2 h3 h4 => ⟨v5, v7, h1, h2, h3, h4⟩))
  rintro a2 w2 ⟨v5, v7, hS, s5, s7, hM4⟩
  exact retM hS.ok hS.s4 s5 hS.s6 s7 ⟨v4, v5, v6, v7, rfl, ⟨hM4.o4.lower (by omega), hM4.pair.o1.lower (by omega), hM4.o6.lower (by omega), hM4.pair.o2.lower (by omega)⟩, hM4.mem.bel⟩

theorem made_ints (n : Nat) : (madeCells (Value.int .i64 0).cells (n * 1)).toList = List.replicate n (.int .i64 0) := by
  rw [show (Value.int .i64 0).cells = #[Value.int .i64 0] from rfl, toList_madeCells_one, Nat.mul_one]

set_option maxRecDepth 100000 in
set_option maxHeartbeats 1000000 in
theorem model_any (ad bd : Option Addr) (ba oa n ca bb ob m cb : Nat) (A B : Nat → ByteArray) (w : World) (hn : n ≤ 4096) (hm : m ≤ 4096) (la : Lines w ad ba oa n A) (lb : Lines w bd bb ob m B) :
    Calls Try.prog 21 #[.slice ad n ca, .slice bd m cb] w fun e w' => ∃ v4 v5 v6 v7, e = .returned (.tuple #[v4, v5, v6, v7]) ∧ Gives w' w.heap.size A B n m v4 v5 v6 v7 ∧ Below w.heap.size w w' := by
  obtain ⟨i0, hi, hz0, hz1, hz2⟩ := info_parts info3H
  go_enter Try.func21, Try.ntmps21
  go_wp2_with (first
    | (at_make; have _t := hn; refine wpList_make_full _ rfl (.tmp 19) (.tmp 19) 30 rfl w.heap.size 3 i0 (.int .i64 0) 1 Try.underlying30 hi hz0 hz1 _ _ _ _ n rfl rfl rfl rfl (by rw [hz2]; omega) (by unfold maxLen; omega) (Nat.le_refl _) ?_; intro w1 hown1 hgrow1; have hs1 := hgrow1.size)
    | (at_make; refine wpList_make_full _ rfl (.tmp 21) (.tmp 21) 30 rfl w.heap.size 3 i0 (.int .i64 0) 1 Try.underlying30 hi hz0 hz1 _ _ _ _ n rfl rfl rfl rfl (by rw [hz2]; omega) (by unfold maxLen; omega) (by omega) ?_; intro w2 hown2 hgrow2))
  rw [made_ints] at hown1 hown2
  have r1 : Row w1 w.heap.size 3 n (mixN (fst A n) 0) := Row.of_owns hown1 (fun i hi => by simp [hi, mixN])
  have r2 : Row w2 w1.heap.size 3 n (mixN (Held.dc A) 0) := Row.of_owns hown2 (fun i hi => by simp [hi, mixN])
  have hlt := r1.lt
  have hc : Mx.Fits ⟨ad, bd, ba, oa, n, ca, bb, ob, m, cb, w.heap.size, w1.heap.size, A, B, w⟩ := ⟨hn, hm, la, lb, Nat.le_refl _, hlt⟩
  have hM : MemM ⟨ad, bd, ba, oa, n, ca, bb, ob, m, cb, w.heap.size, w1.heap.size, A, B, w⟩ 0 w2 :=
    ⟨r1.grown hgrow2 (by simp), r2, ((Below.refl _ _).grown hgrow1 (Nat.le_refl _) (fun k e => by cases e)).grown hgrow2 (by omega) (fun k e => by cases e)⟩
  clear hown1 hown2 hgrow1 hgrow2 hi hz0 hz1 hz2 r1 r2
  refine loopM1 (c := ⟨ad, bd, ba, oa, n, ca, bb, ob, m, cb, w.heap.size, w1.heap.size, A, B, w⟩) hc ⟨⟨rfl, rfl⟩, rfl, rfl, rfl, rfl, rfl, rfl, rfl, rfl, rfl⟩ rfl rfl hM (fun a' w' h1 h2 => ?_)
  simp only [Exit.inBlock, if_true, Exit.then]
  go_step
  exact rest21 hc h1 h2

end Go.Proofs.Qxb6601047a
