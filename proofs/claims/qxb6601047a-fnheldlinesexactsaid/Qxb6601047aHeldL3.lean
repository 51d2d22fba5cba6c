import Derived.Test.Qxb6601047aHeldL2
namespace Go.Proofs.Qxb6601047a
open Go.RowKit Go.Maps
set_option linter.unusedSimpArgs false
set_option linter.unusedVariables false

structure SH3 (c : Hx) (bI : Nat) (v5 v7 : Value) (a : Act) : Prop where
  ok : Ok105 a
  s5 : slot a 5 = v5
  s7 : slot a 7 = v7
  s14 : slot a 14 = .slice (some ⟨bI, 0, none⟩) (Held.dc c.A c.n) (Held.dc c.A c.n)

/-- what the memory holds in the third loop -/
structure Mem3 (c : Hx) (bI base base3 k : Nat) (v4 v5 v6 v7 : Value) (w : World) : Prop where
  num : Row w c.bN 3 c.n (numV c.A c.n c.n)
  inB : Row w bI 4 (Held.dc c.A c.n) (seenV c c.m)
  pair : Pair w base3 v4 (Held.hA c.A c.B c.n c.m k) v6 (Held.xs c.A c.B c.m k)
  o5 : OwnS w base v5 (Held.hB c.A c.B c.n c.m)
  o7 : OwnS w base v7 (Held.ys c.A c.B c.n c.m)
  l5 : ∀ j, v5.ownBlock = some j → j < base3
  l7 : ∀ j, v7.ownBlock = some j → j < base3
  bel : Below c.w0.heap.size c.w0 w
  siz : base3 ≤ w.heap.size

set_option maxRecDepth 100000 in
set_option maxHeartbeats 2000000 in
theorem loopH3 {c : Hx} (hc : c.Fits) {bI base base3 : Nat} (hNI : c.bN < bI) (hIb : bI < base) (hbb : base ≤ base3) {w : World} {a : Act} {v5 v7 : Value} {Q : Exit → Act → World → Prop}
    (hS : SH3 c bI v5 v7 a) (s4 : slot a 4 = .slice none 0 0) (s6 : slot a 6 = .slice none 0 0) (s81 : slot a 81 = .slice (some ⟨c.bN, 0, none⟩) c.n c.n) (s82 : slot a 82 = .int .i64 c.n) (s83 : slot a 83 = .int .i64 0)
    (hM : Mem3 c bI base base3 0 (.slice none 0 0) v5 (.slice none 0 0) v7 w)
    (hQ : ∀ a' w' v4 v6, SH3 c bI v5 v7 a' → slot a' 4 = v4 → slot a' 6 = v6 → Mem3 c bI base base3 c.n v4 v5 v6 v7 w' → Q (.exit 4) a' w') : Wp32 [1, 1, 1, 1, 1, 1, 0, 1, 0] Q a w := by
  unfold Wp32
  conv => arg 2; whnf
  have hn := hc.hn
  refine wp_loop (fun a w => ∃ (k : Nat) (v4 v6 : Value), k ≤ c.n ∧ SH3 c bI v5 v7 a ∧ slot a 4 = v4 ∧ slot a 6 = v6 ∧ slot a 81 = .slice (some ⟨c.bN, 0, none⟩) c.n c.n ∧ slot a 82 = .int .i64 c.n ∧ slot a 83 = .int .i64 k ∧ Mem3 c bI base base3 k v4 v5 v6 v7 w) (fun a _ => ((c.n : Int) - intOf (slot a 83)).toNat)
    ⟨0, _, _, Nat.zero_le _, hS, s4, s6, s81, s82, s83, hM⟩ ?_
  clear hS s4 s6 s81 s82 s83 hM w a
  rintro a w ⟨k, v4, v6, hk, hS, s4, s6, s81, s82, s83, hM⟩
  have hmu : intOf (slot a 83) = k := by rw [s83]; rfl
  rw [hmu]
  clear hmu
  obtain ⟨i0, hi, hz0, hz1, hz2⟩ := info_parts info3H
  obtain ⟨ok, s5, s7, s14⟩ := hS
  rw [Fr105_of ok]
  generalize slot a = s at *
  unfold Fr105
  simp only [s5, s7, s14, s4, s6, s81, s82, s83]
  clear s5 s7 s14 s4 s6 s81 s82 s83 ok
  by_cases hlt : k < c.n
  · have g1 : w.cell? ⟨c.bN, k, none⟩ = some (.int .i64 (if k < c.n then (Held.num c.A c.n (c.A k) : Int) else 0)) := hM.num.cell k hlt
    rw [if_pos hlt] at g1
    have hink : Held.isIn c.A c.n (c.A k) = true := Held.isIn_iff.2 ⟨k, hlt, rfl⟩
    have hlt2 := Held.num_lt hink
    have g2 : w.cell? ⟨bI, Held.num c.A c.n (c.A k), none⟩ = some (.bool (Held.seen c.A c.B c.n (Held.num c.A c.n (c.A k)) c.m)) := hM.inB.cell _ hlt2
    rw [Held.held_iff hlt] at g2
    have hdc := Held.dc_le c.A c.n
    cases hin : Held.isIn c.B c.m (c.A k) with
    | true =>
      rw [hin] at g2
      have e1 : Held.hA c.A c.B c.n c.m (k + 1) = Held.hA c.A c.B c.n c.m k ++ [(Held.num c.A c.n (c.A k) : Int)] := Held.acc_yes hin
      have e2 : Held.xs c.A c.B c.m (k + 1) = Held.xs c.A c.B c.m k ++ [(k : Int)] := Held.acc_yes hin
      have l1 : (Held.hA c.A c.B c.n c.m k).length ≤ k := Held.acc_len _ _ _
      have l2 : (Held.xs c.A c.B c.m k).length ≤ k := Held.acc_len _ _ _
      have hz := hM.siz
      have hNm := hc.m1
      have hm0 := hc.m0
      have hp := hM.pair
      have hfin : Hid (∀ (o1 o2 : Obj) (w1 w2 : World) (v4' v6' : Value), (w.alloc o1).grownBy w1 v4.ownBlock →
          w1.ownsRow base3 3 1 v4' ((Held.hA c.A c.B c.n c.m k).length + 1) ((Held.hA c.A c.B c.n c.m k).map (Value.int .i64) ++ [.int .i64 (Held.num c.A c.n (c.A k))]) → (v4'.ownBlock = v4.ownBlock ∨ v4'.ownBlock = some (w.alloc o1).heap.size) →
          (w1.alloc o2).grownBy w2 v6.ownBlock → w2.ownsRow base3 3 1 v6' ((Held.xs c.A c.B c.m k).length + 1) ((Held.xs c.A c.B c.m k).map (Value.int .i64) ++ [.int .i64 k]) → (v6'.ownBlock = v6.ownBlock ∨ v6'.ownBlock = some (w1.alloc o2).heap.size) →
          Mem3 c bI base base3 (k + 1) v4' v5 v6' v7 w2) := by
        intro o1 o2 w1 w2 v4' v6' a1 a2 a3 b1 b2 b3
        have hpair := hp.pushed rfl a1 a2 a3 rfl b1 b2 b3
        have q4 : ∀ j, v4.ownBlock = some j → base3 ≤ j := fun j e => (hp.o1.lt j e).1
        have q6 : ∀ j, v6.ownBlock = some j → base3 ≤ j := fun j e => (hp.o2.lt j e).1
        have n4 : ∀ j, j < base3 → some j ≠ v4.ownBlock := fun j hj e => by have := q4 j e.symm; omega
        have n6 : ∀ j, j < base3 → some j ≠ v6.ownBlock := fun j hj e => by have := q6 j e.symm; omega
        have r4 : ∀ v : Value, (∀ j, v.ownBlock = some j → j < base3) → v.ownBlock = none ∨ v.ownBlock ≠ v4.ownBlock := by
          intro v hv
          cases hb : v.ownBlock with
          | none => exact .inl rfl
          | some j => exact .inr (n4 j (hv j hb))
        have r6 : ∀ v : Value, (∀ j, v.ownBlock = some j → j < base3) → v.ownBlock = none ∨ v.ownBlock ≠ v6.ownBlock := by
          intro v hv
          cases hb : v.ownBlock with
          | none => exact .inl rfl
          | some j => exact .inr (n6 j (hv j hb))
        have gs1 := a1.size
        have gs2 := b1.size
        have t1 : ∀ (W : World) (o : Obj), (W.alloc o).heap.size = W.heap.size + 1 := fun W o => by simp
        rw [t1] at gs1 gs2
        refine ⟨?_, ?_, ?_, ?_, ?_, hM.l5, hM.l7, ?_, by omega⟩
        · exact (((hM.num.alloc o1).grown a1 (n4 _ (by omega))).alloc o2).grown b1 (n6 _ (by omega))
        · exact (((hM.inB.alloc o1).grown a1 (n4 _ (by omega))).alloc o2).grown b1 (n6 _ (by omega))
        · rw [e1, e2]; exact hpair
        · exact World.ownsRow.kept (World.ownsRow.alloc (World.ownsRow.kept (World.ownsRow.alloc hM.o5 o1) a1 (r4 v5 hM.l5)) o2) b1 (r6 v5 hM.l5)
        · exact World.ownsRow.kept (World.ownsRow.alloc (World.ownsRow.kept (World.ownsRow.alloc hM.o7 o1) a1 (r4 v7 hM.l7)) o2) b1 (r6 v7 hM.l7)
        · exact Below.grown (Below.alloc (Below.grown (Below.alloc hM.bel (by omega) o1) a1 (by rw [t1]; omega) (fun j e => by have := q4 j e; omega)) (by omega) o2) b1 (by rw [t1]; omega) (fun j e => by have := q6 j e; omega)
      have p1 : w.ownsRow base3 3 1 v4 (Held.hA c.A c.B c.n c.m k).length ((Held.hA c.A c.B c.n c.m k).map (Value.int .i64)) := hp.o1
      have p2 : w.ownsRow base3 3 1 v6 (Held.xs c.A c.B c.m k).length ((Held.xs c.A c.B c.m k).map (Value.int .i64)) := hp.o2
      have ap := hp.ap'
      clear hM hp hin e1 e2 hink
      generalize Held.hA c.A c.B c.n c.m k = L1 at *
      generalize Held.xs c.A c.B c.m k = L2 at *
      generalize Held.num c.A c.n (c.A k) = z at *
      go_wp2_with (first
        | (at_builtin; refine wpList_append_own_at _ rfl (.tmp 92) (.tmp 94) 30 rfl base3 3 i0 (.int .i64 0) 1 8 Try.underlying30 hi hz0 hz1 hz2 rfl (by decide) v4 L1.length _ rfl (p1.alloc _) ⟨w.heap.size, 0, none⟩ 1 1 [.int .i64 z] rfl rfl (cell_one_at _ _ (by simp) _ _) (ints_oneCell .i64 [(z : Int)]) (by unfold maxLen; omega) (by omega) (by simp; omega) ?_; intro v4' w1 hown1 hgrow1 hnil1 hloc1; have p2' := (p2.alloc _).kept hgrow1 ap; have hs1 := hgrow1.size)
        | (at_builtin; refine wpList_append_own_at _ rfl (.tmp 96) (.tmp 98) 30 rfl base3 3 i0 (.int .i64 0) 1 8 Try.underlying30 hi hz0 hz1 hz2 rfl (by decide) v6 L2.length _ rfl (p2'.alloc _) ⟨w1.heap.size, 0, none⟩ 1 1 [.int .i64 k] rfl rfl (cell_one_at _ _ (by simp) _ _) (ints_oneCell .i64 [(k : Int)]) (by unfold maxLen; omega) (by omega) (by simp; simp at hs1; omega) ?_; intro v6' w2 hown2 hgrow2 hnil2 hloc2))
      refine ⟨⟨k + 1, v4', v6', by omega, ⟨⟨rfl, rfl⟩, rfl, rfl, rfl⟩, rfl, rfl, rfl, rfl, rfl, hfin.out _ _ _ _ _ _ hgrow1 hown1 hloc1 hgrow2 hown2 hloc2⟩, ?_⟩
      · show ((c.n : Int) - intOf (Value.int .i64 ((k : Int) + 1))).toNat < _
        simp only [intOf]
        omega
    | false =>
      rw [hin] at g2
      have e1 : Held.hA c.A c.B c.n c.m (k + 1) = Held.hA c.A c.B c.n c.m k := Held.acc_no hin
      have e2 : Held.xs c.A c.B c.m (k + 1) = Held.xs c.A c.B c.m k := Held.acc_no hin
      have hM' : Mem3 c bI base base3 (k + 1) v4 v5 v6 v7 w := ⟨hM.num, hM.inB, by rw [e1, e2]; exact hM.pair, hM.o5, hM.o7, hM.l5, hM.l7, hM.bel, hM.siz⟩
      clear e1 e2 hM hin hi hz0 hz1 hz2 hink
      generalize Held.num c.A c.n (c.A k) = z at *
      go_wp2
      refine ⟨⟨k + 1, v4, v6, by omega, ⟨⟨rfl, rfl⟩, rfl, rfl, rfl⟩, rfl, rfl, rfl, rfl, rfl, hM'⟩, ?_⟩
      · show ((c.n : Int) - intOf (Value.int .i64 ((k : Int) + 1))).toNat < _
        simp only [intOf]
        omega
  · obtain rfl : k = c.n := by omega
    clear hi hz0 hz1 hz2
    go_wp2
    exact hQ _ _ _ _ ⟨⟨rfl, rfl⟩, rfl, rfl, rfl⟩ rfl rfl hM

/-- what both functions give back -/
structure Gives (w : World) (base : Nat) (A B : Nat → ByteArray) (n m : Nat) (v4 v5 v6 v7 : Value) : Prop where
  o4 : OwnS w base v4 (Held.hA A B n m n)
  o5 : OwnS w base v5 (Held.hB A B n m)
  o6 : OwnS w base v6 (Held.xs A B m n)
  o7 : OwnS w base v7 (Held.ys A B n m)

theorem results4 {fn : Func} {t1 t2 t3 t4 : Tmp} (h : fn.results = #[.tmp t1, .tmp t2, .tmp t3, .tmp t4]) (tmps : Array Value) (P : Program) (w : World) :
    (results fn tmps).run P w = .ok (.tuple #[tmps.getD t1 undef, tmps.getD t2 undef, tmps.getD t3 undef, tmps.getD t4 undef]) w := by
  simp [results, h]

set_option maxRecDepth 100000 in
set_option maxHeartbeats 1000000 in
theorem retH {a : Act} {w : World} {v4 v5 v6 v7 : Value} {R : Ending → World → Prop} (ok : Ok105 a) (s4 : slot a 4 = v4) (s5 : slot a 5 = v5) (s6 : slot a 6 = v6) (s7 : slot a 7 = v7)
    (hR : R (.returned (.tuple #[v4, v5, v6, v7])) w) : Wp32 [1, 1, 1, 1, 1, 1, 1] (bodyPost Try.prog Try.f32 R) a w := by
  unfold Wp32
  conv => arg 2; whnf
  rw [Fr105_of ok]
  generalize slot a = s at *
  unfold Fr105
  simp only [s4, s5, s6, s7]
  clear s4 s5 s6 s7 ok
  go_wp2
  refine bodyPost_ret (results4 rfl _ _ _) rfl ?_
  exact hR

end Go.Proofs.Qxb6601047a
